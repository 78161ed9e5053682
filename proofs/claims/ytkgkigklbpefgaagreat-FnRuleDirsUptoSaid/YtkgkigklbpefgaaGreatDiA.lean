/- Part of the proof of a law of a rule over documents (DiA), where what the arguments hold is of bulk at most 1048576. -/
import Derived.Test.YtkgkigklbpefgaaGreatBaseB
import Derived.Test.YtkgkigklbpefgaaGreatWalkD
import Derived.Test.YtkgkigklbpefgaaGreatSpecD
import Derived.Test.YtkgkigklbpefgaaGreatLawA
import Derived.Test.YtkgkigklbpefgaaGreatBaseC
import Derived.Laws.StructEq
import Derived.ArgAppend
import Derived.Test.YtkgkigklbpefgaaGreatWalkC
import Derived.Test.YtkgkigklbpefgaaGreatSpecE
set_option linter.unusedVariables false
set_option linter.unusedSimpArgs false
set_option linter.unusedSectionVars false
namespace Go.VC
open Go Go.Proofs
set_option maxRecDepth 100000
theorem s_a (a:OA)(b:Value)(w:World)(R:EW)(h:
 (b.oneCell'=true/\True)/\(let c:=w.alloc (.cells #[b] 161);
 let d:=c.alloc (.map #[] 0);
 True/\(let e:=d.alloc (.cells #[.map none] 168);
 Off e (adr d.heap.size) 1 []/\True/\(let f:=(e.setCell (adr d.heap.size) (.map (some c.heap.size)));
 C0 114 #[.pointer a,(.func (.func 115) #[] #[(.pointer (some (adr w.heap.size))),(.pointer (some (adr d.heap.size)))])] f (fun g=>True/\R (.returned (.tuple #[])) g))))):CP 65 #[.pointer a,b] w R:=
 vcq Tryz.func65 [] [] [.l (.optr a),.l (.val b)] h
theorem r_9 (a:OA)(b:OA)(c:Addr)(d:Addr)(w:World)(R:EW)(h:
 Pt b fun e=>Lp w (e.add 4) fun f=>(Br (f.isNone) (∀ g,g=w.drew->Lv g c fun i=>Pt b fun j=>Ls g j fun k=>Pt b fun l=>Lp g (l.add 2) fun m=>True/\(let n:=g.alloc (.cells #[(ifcV (some (9,(.string k))))] 20);
 ((n.cell? (l.add 2)=g.cell? (l.add 2))/\(n.cell? c=g.cell? c)/\True)/\CP 116 #[(.string (⟨#[85,110,107,110,111,119,110,32,100,105,114,101,99,116,105,118,101,32,34,64,37,115,34,46]⟩:BA)),(.slice (some (adr g.heap.size)) 1 1)] n (fun o p=>∃ q:Value,o=.returned q/\True/\((p.cell? (l.add 2)=n.cell? (l.add 2))/\(p.cell? c=n.cell? c)/\True)/\CP 117 #[.pointer m] p (fun r s=>∃ t:Value,r=.returned t/\True/\((s.cell? c=p.cell? c)/\True)/\(q.oneCell'=true/\t.oneCell'=true/\True)/\(let u:=s.alloc (.cells #[q,t] 181);
 ((u.cell? c=s.cell? c)/\True)/\∃ v x,i=.func (.func v) #[] x.toArray/\∃ y,Tryz.prog.funcs[v]? =some y/\(y.name== "runtime.NumGoroutine" ||y.body.isNone)=false/\CP v ([(.slice (some (adr s.heap.size)) 2 2)]++x).toArray u (fun z A=>z=.returned (.tuple #[])/\True/\True/\R (.returned (.tuple #[])) A)))))) (∀ B,B=w.drew->Pt b fun C=>Lp B (C.add 4) fun D=>Pt D fun E=>Ll B (E.add 4) fun F G H=>Pt b fun I=>Ls B (I.add 5) fun J=>Cb 118 #[.slice F G H,.string J] B (fun K L=>True/\True/\(Br K (R (.returned (.tuple #[])) L) (∀ M,M=L.drew->Pt b fun N=>Ls M N fun O=>Pt b fun P=>Lp M (P.add 2) fun Q=>Pt Q fun S=>Li M (S.add 2) fun U=>Pt b fun V=>Lp M (V.add 2) fun W=>Pt W fun X=>Li M (X.add 3) fun Y=>True/\True/\(let Z:=M.alloc (.cells #[(.string (⟨#[]⟩:BA)),.int .i64 0,.int .i64 0] 196);
 ((Z.cell? (X.add 3)=M.cell? (X.add 3))/\(Z.cell? (V.add 2)=M.cell? (V.add 2))/\(Z.cell? (S.add 2)=M.cell? (S.add 2))/\(Z.cell? (P.add 2)=M.cell? (P.add 2))/\(Z.cell? N=M.cell? N)/\True)/\True/\(let aa:=setB Z (M.heap.size) [.string O,.int .i64 U,.int .i64 Y] 196;
 True/\Lm aa d fun ab=>∃ ac,(Instr.lookup 168 (.map ab) (.agg #[.string O,.int .i64 U,.int .i64 Y]) false).run Tryz.prog aa=.ok (.bool ac) aa/\(Br (!ac) (∀ ad,ad=aa.drew->Lv ad c fun ae=>Pt b fun af=>Ls ad af fun ag=>Pt b fun ah=>Ls ad (ah.add 5) fun ai=>Pt b fun aj=>Lp ad (aj.add 2) fun ak=>True/\(let al:=ad.alloc (.cells #[(ifcV (some (9,(.string ag)))),(ifcV (some (177,(.string ai))))] 20);
 ((al.cell? (aj.add 2)=ad.cell? (aj.add 2))/\(al.cell? c=ad.cell? c)/\True)/\CP 116 #[(.string (⟨#[68,105,114,101,99,116,105,118,101,32,34,64,37,115,34,32,109,97,121,32,110,111,116,32,98,101,32,117,115,101,100,32,111,110,32,37,115,46]⟩:BA)),(.slice (some (adr ad.heap.size)) 2 2)] al (fun am an=>∃ ao:Value,am=.returned ao/\(KeepT 196 al an/\True)/\((an.cell? (aj.add 2)=al.cell? (aj.add 2))/\(an.cell? c=al.cell? c)/\True)/\CP 117 #[.pointer ak] an (fun ap aq=>∃ ar:Value,ap=.returned ar/\(KeepT 196 an aq/\True)/\((aq.cell? c=an.cell? c)/\True)/\(ao.oneCell'=true/\ar.oneCell'=true/\True)/\(let au:=aq.alloc (.cells #[ao,ar] 181);
 ((au.cell? c=aq.cell? c)/\True)/\∃ av ax,ae=.func (.func av) #[] ax.toArray/\∃ ay,Tryz.prog.funcs[av]? =some ay/\(ay.name== "runtime.NumGoroutine" ||ay.body.isNone)=false/\CP av ([(.slice (some (adr aq.heap.size)) 2 2)]++ax).toArray au (fun az aA=>az=.returned (.tuple #[])/\(KeepT 196 au aA/\True)/\True/\Lm aA d fun aB=>∃ aC,(Instr.mapUpdate 168 (.map aB) (.agg #[.string O,.int .i64 U,.int .i64 Y]) (.bool true)).run Tryz.prog aA=.ok () aC/\(KeepT 196 aA aC/\True)/\R (.returned (.tuple #[])) aC)))))) (R (.returned (.tuple #[])) aa)))))))))):CP 115 #[.pointer a,.pointer b,(.pointer (some c)),(.pointer (some d))] w R:=
 vcq Tryz.func115 [6] [] [.l (.optr a),.l (.optr b),.l (.ptr c),.l (.ptr d)] h
theorem r_7 (a:OA)(b c:Nat)(d:BA)(w:World)(R:EW)(h:
 Ci 180 #[.slice a b c,.string d] w (fun e f=>True/\R (.returned (.bool (decide (e≥0)))) f)):CP 118 #[.slice a b c,.string d] w R:=
 vcq Tryz.func118 [] [] [.l (.slice a b c),.l (.str d)] h
theorem r_8 (a:OA)(b c:Nat)(d:BA)(w:World)(R:EW)(h:
 ∃ (e:Int->World->Prop) (f:Int->World->Nat),e 0 w/\
 (∀ g:Int,∀ i:World,e g i->
 (Br (decide (g<(b:Int))) (Ix a g b fun j=>Ls i (j.add (g.toNat*1)) fun k=>(Br (d.toList==k.toList) (R (.returned (.int .i64 g)) i) ((e (wr (g+1)) i/\f (wr (g+1)) i<f g i)))) (R (.returned (.int .i64 (-1:Int))) i)))):CP 180 #[.slice a b c,.string d] w R:=
 vcq Tryz.func180 [] [(6,⟨[(8,.int .i64)],[]⟩)] [.l (.slice a b c),.l (.str d)] h
theorem s_c (a:OA)(b c:Nat)(d:OA)(e f:Nat)(g:BA)(i:BA)(j:BA)(k:OA)(l m:Nat)(n:OA)(o p:Nat)(q:OA)(r s:Nat)(t:OA)(u v:Nat)(w:World)(R:EW)(h:
 True/\(let x:=w.alloc (.cells #[.slice a b c,.slice d e f,.string g,.string i,.string j,.slice k l m,.slice n o p] 40);
 True/\(let y:=x.alloc (.cells #[.slice q r s,.slice t u v] 30);
 CP 56 #[(.agg #[.slice a b c,.slice d e f,.string g,.string i,.string j,.slice k l m,.slice n o p]),(.agg #[.slice q r s,.slice t u v]),(.func (.func 65) #[] #[])] y (fun z A=>∃ B,∃ C,z=.returned (.tuple #[.int .i64 B,.bool C])/\(KeepT 40 y A/\KeepT 30 y A/\True)/\R (.returned (.tuple #[.int .i64 B,.bool C])) A)))):CP 21 #[(.agg #[.slice a b c,.slice d e f,.string g,.string i,.string j,.slice k l m,.slice n o p]),(.agg #[.slice q r s,.slice t u v])] w R:=
 vcq Tryz.func21 [2,3] [] [.agg [.slice a b c,.slice d e f,.str g,.str i,.str j,.slice k l m,.slice n o p],.agg [.slice q r s,.slice t u v]] h
theorem s_g (a:OA)(b c:Nat)(d:OA)(e f:Nat)(g:OA)(i j:Nat)(k:OA)(l m:Nat)(n:OA)(o p:Nat)(q:OA)(r s:Nat)(t:OA)(u v:Nat)(w:World)(R:EW)(h:
 True/\(let x:=w.alloc (.cells #[.slice a b c,.slice d e f,.slice g i j,.slice k l m,.slice n o p] 26);
 True/\(let y:=x.alloc (.cells #[.slice q r s,.slice t u v] 30);
 ∀ z:Bool->World->Prop,(∀ A:Bool,∀ B:World,
 ((Br A (R (.returned (.bool true)) B) (CP 13 #[(.agg #[.slice a b c,.slice d e f,.slice g i j,.slice k l m,.slice n o p])] B (fun C D=>∃ E,∃ F,C=.returned (.tuple #[.pointer E,.bool F])/\(KeepT 26 B D/\KeepT 30 B D/\True)/\∀ G:Bool->World->Prop,(∀ H:Bool,∀ I:World,
 ((Br H (R (.returned (.bool true)) I) (∀ J,J=I.drew->CP 18 #[.pointer E] J (fun K L=>∃ M N O,∃ P Q S,∃ U,∃ V,∃ W,∃ X Y Z,∃ aa ab ac,K=.returned (.agg #[.slice M N O,.slice P Q S,.string U,.string V,.string W,.slice X Y Z,.slice aa ab ac])/\(KeepT 26 J L/\KeepT 30 J L/\True)/\((0=0)/\True)/\CP 21 #[(.agg #[.slice M N O,.slice P Q S,.string U,.string V,.string W,.slice X Y Z,.slice aa ab ac]),(.agg #[.slice q r s,.slice t u v])] L (fun ad ae=>∃ af,∃ ag,ad=.returned (.tuple #[.int .i64 af,.bool ag])/\(KeepT 26 L ae/\KeepT 30 L ae/\True)/\True/\True/\True/\∀ ah:Bool->World->Prop,(∀ ai:Bool,∀ aj:World,
 (R (.returned (.bool ai)) aj)->
 ah ai aj)->
 Cb 22 #[.pointer E,(.agg #[.slice q r s,.slice t u v])] ae (fun ak al=>(KeepT 26 ae al/\KeepT 30 ae al/\True)/\(Nr ak (Cb 23 #[.pointer E,(.agg #[.slice q r s,.slice t u v])] al (fun am an=>(KeepT 26 al an/\KeepT 30 al an/\True)/\Cb 19 #[.int .i64 af,.bool ag,.bool am] an (fun ao ap=>(KeepT 26 an ap/\KeepT 30 an ap/\True)/\ah ao ap))) (Cb 19 #[.int .i64 af,.bool ag,.bool true] al (fun aq ar=>(KeepT 26 al ar/\KeepT 30 al ar/\True)/\ah aq ar)))))))))->
 G H I)->
 (Nr (!F) (Cb 14 #[(.agg #[.slice q r s,.slice t u v])] D (fun au av=>(KeepT 26 D av/\KeepT 30 D av/\True)/\(Nr (!au) (Cb 15 #[.pointer E,(.agg #[.slice q r s,.slice t u v])] av (fun ax ay=>(KeepT 26 av ay/\KeepT 30 av ay/\True)/\G (!ax) ay)) (G true av)))) (G true D))))))->
 z A B)->
 Cb 11 #[(.agg #[.slice a b c,.slice d e f,.slice g i j,.slice k l m,.slice n o p])] y (fun az aA=>(KeepT 26 y aA/\KeepT 30 y aA/\True)/\(Nr (!az) (Cb 12 #[(.agg #[.slice q r s,.slice t u v])] aA (fun aB aC=>(KeepT 26 aA aC/\KeepT 30 aA aC/\True)/\z (!aB) aC)) (z true aA)))))):CP 4 #[(.agg #[.slice a b c,.slice d e f,.slice g i j,.slice k l m,.slice n o p]),(.agg #[.slice q r s,.slice t u v])] w R:=
 vcq Tryz.func4 [2,3] [(3,⟨[(16,.bool)],[]⟩),(13,⟨[(34,.bool)],[]⟩),(22,⟨[(4,.bool)],[]⟩)] [.agg [.slice a b c,.slice d e f,.slice g i j,.slice k l m,.slice n o p],.agg [.slice q r s,.slice t u v]] h
set_option maxRecDepth 100000
theorem p_T (a:OA)(b:Value)(w:World)(R:EW)(h:
 Pt a fun c=>Ll w (c.add 5) fun d e f=>(b.oneCell'=true/\True)/\(let g:=w.alloc (.cells #[b] 197);
 Ap 152 (.slice d e f) (.slice (some (adr w.heap.size)) 1 1) g fun i j k l=>True/\Pt a fun m=>Off l (m.add 5) 1 []/\True/\(let n:=(l.setCell (m.add 5) (.slice i j k));
 R (.returned (.tuple #[])) n))):CP 114 #[.pointer a,b] w R:=
 vcq Tryz.func114 [] [] [.l (.optr a),.l (.val b)] h
variable [DB]
theorem p_S {eb:Nat}{f:Value}{evs:List Value}{w:World}(hf:a_v f)(hB:Blk w eb 157 evs)(hj:evs[5]? =some (.slice none 0 0)):
  CP 114 #[.pointer (some (adr eb)),f] w fun e w'=>e=.returned (.tuple #[])/\∃ (p:Addr) (C:Nat),Blk w' eb 157 (evs.set 5 (.slice (some p) 1 C))/\At w' 197 p f/\w.heap.size<=p.block/\Ext (fun b=>b=eb) w w':=by
 obtain ⟨p,C,w7,r7,ha,hp,hx,-⟩:=m_z 152 197 Tryz.t197 _ _ (by kernel_rfl) (by kernel_rfl) rfl (by kernel_rfl) rfl (by kernel_rfl) (by decide) (w:=w) hf 152 #[false,false];have hB7:=hB.ext hx id;have hlt:=hB.lt;have hl:5+1<=evs.length:=(List.getElem?_eq_some_iff.1 hj).1;have hs:Ext (fun b=>b=eb) w7 (w7.setCell ⟨eb,5,none⟩ (.slice (some p) 1 C)):=Ext.setCell (X:=fun b=>b=eb) (Ext.refl _) (a:=⟨eb,5,none⟩) (.inl rfl) _;refine p_T (some (adr eb)) f w _ ⟨adr eb,rfl,none,0,0,(hB.at (j:=5) hj).cell,⟨hf.one,trivial⟩,some p,1,C,w7,r7,trivial,adr eb,rfl,hB7.off (j:=5) (n:=1) (q:=fun _=>false) hl rfl,trivial,rfl,p,C,hB7.set 5 _,hs.at (by show ¬ p.block=eb;omega) ha,hp,(hx.toM _).trans hs fun _ _ e=>e⟩
end Go.VC
namespace Go.VC
open Go Go.Proofs
set_option maxRecDepth 100000
theorem q_1 (a:OA)(b c:Nat)(d:OA)(e f:Nat)(w:World)(R:EW)(h:
 True/\(let g:=w.alloc (.cells #[.slice a b c,.slice d e f] 30);
 ∃ (i:OA->Nat->Nat->Int->World->Prop) (j:OA->Nat->Nat->Int->World->Nat),i none 0 0 0 g/\
 (∀ (k:OA) (l m:Nat),∀ n:Int,∀ o:World,i k l m n o->
 (Br (decide (n<(b:Int))) (Ix a n b fun p=>L_sslll o (p.add (n.toNat*5)) fun q r s t u v x y z A B=>True/\True/\(let D:=o.alloc (.cells #[.string q,.string r,.slice s t u,.slice v x y,.slice z A B] 51);
 ∀ E,E=D.drew->Cs 119 #[.string q] E (fun F G=>(KeepT 30 E G/\KeepT 51 E G/\True)/\((1=1)/\True)/\True/\True/\(let H:=G.alloc (.cells #[.slice v x y,.string F] 101);
 True/\Ap 98 (.slice k l m) (.slice (some (adr G.heap.size)) 1 1) H fun I J K L=>(KeepT 30 H L/\KeepT 51 H L/\True)/\True/\True/\∃ (M:OA->Nat->Nat->Int->World->Prop) (N:OA->Nat->Nat->Int->World->Nat),M I J K 0 L/\
 (∀ (O:OA) (P Q:Nat),∀ S:Int,∀ U:World,M O P Q S U->
 (Br (decide (S<(t:Int))) (Ix s S t fun V=>Ls U (V.add (S.toNat*6)) fun W=>Ls U ((V.add (S.toNat*6)).add 1) fun X=>Ll U ((V.add (S.toNat*6)).add 2) fun Y Z aa=>Lb U ((V.add (S.toNat*6)).add 3) fun ab=>Ll U ((V.add (S.toNat*6)).add 4) fun ac ad ae=>Ll U ((V.add (S.toNat*6)).add 5) fun af ag ah=>True/\True/\(let aj:=U.alloc (.cells #[.string W,.string X,.slice Y Z aa,.bool ab,.slice ac ad ae,.slice af ag ah] 59);
 True/\True/\(let ak:=aj.alloc (.cells #[.slice af ag ah,(.string (⟨#[86,65,82,73,65,66,76,69,95,68,69,70,73,78,73,84,73,79,78]⟩:BA))] 101);
 Ap 98 (.slice O P Q) (.slice (some (adr aj.heap.size)) 1 1) ak fun al am an ao=>(KeepT 30 ak ao/\KeepT 51 ak ao/\KeepT 59 ak ao/\True)/\(M al am an (wr (S+1)) ao/\N al am an (wr (S+1)) ao<N O P Q S U)))) (Cl 120 #[.slice z A B] U (fun ap aq ar au=>(KeepT 30 U au/\KeepT 51 U au/\True)/\Ap 98 (.slice O P Q) (.slice ap aq ar) au fun av ax ay az=>(KeepT 30 au az/\KeepT 51 au az/\True)/\(i av ax ay (wr (n+1)) az/\j av ax ay (wr (n+1)) az<j k l m n o))))))))) (∃ (aA:OA->Nat->Nat->Int->World->Prop) (aB:OA->Nat->Nat->Int->World->Nat),aA k l m 0 o/\
 (∀ (aC:OA) (aD aE:Nat),∀ aF:Int,∀ aG:World,aA aC aD aE aF aG->
 (Br (decide (aF<(e:Int))) (Ix d aF e fun aH=>L_ssll aG (aH.add (aF.toNat*4)) fun aI aJ aK aL aM aN aO aP=>True/\True/\(let aS:=aG.alloc (.cells #[.string aI,.string aJ,.slice aK aL aM,.slice aN aO aP] 63);
 True/\True/\(let aU:=aS.alloc (.cells #[.slice aK aL aM,(.string (⟨#[70,82,65,71,77,69,78,84,95,68,69,70,73,78,73,84,73,79,78]⟩:BA))] 101);
 Ap 98 (.slice aC aD aE) (.slice (some (adr aS.heap.size)) 1 1) aU fun aV aW aX aY=>(KeepT 30 aU aY/\KeepT 63 aU aY/\True)/\Cl 120 #[.slice aN aO aP] aY (fun aZ ba bb bc=>(KeepT 30 aY bc/\KeepT 63 aY bc/\True)/\Ap 98 (.slice aV aW aX) (.slice aZ ba bb) bc fun bd be bf bg=>(KeepT 30 bc bg/\KeepT 63 bc bg/\True)/\(aA bd be bf (wr (aF+1)) bg/\aB bd be bf (wr (aF+1)) bg<aB aC aD aE aF aG))))) (R (.returned (.slice aC aD aE)) aG)))))))):CP 66 #[(.agg #[.slice a b c,.slice d e f])] w R:=
 vcq Tryz.func66 [1,5,7,9] [(8,⟨[(3,.slice),(13,.int .i64)],[]⟩),(25,⟨[(3,.slice),(29,.int .i64)],[]⟩),(44,⟨[(3,.slice),(49,.int .i64)],[]⟩)] [.agg [.slice a b c,.slice d e f]] h
theorem q_J (a:OA)(b c:Nat)(w:World)(R:EW)(h:
 ∃ (d:OA->Nat->Nat->Int->World->Prop) (e:OA->Nat->Nat->Int->World->Nat),d none 0 0 0 w/\
 (∀ (f:OA) (g i:Nat),∀ j:Int,∀ k:World,d f g i j k->
 (Br (decide (j<(b:Int))) (Ix a j b fun l=>L_issslll k (l.add (j.toNat*7)) fun m n o p q r s t u v x y z=>True/\True/\(let B:=k.alloc (.cells #[.int .i64 m,.string n,.string o,.string p,.slice q r s,.slice t u v,.slice x y z] 67);
 ∀ C,C=B.drew->True/\(let D:=C.alloc (.cells #[(.string (⟨#[70,73,69,76,68]⟩:BA)),(.string (⟨#[70,82,65,71,77,69,78,84,95,83,80,82,69,65,68]⟩:BA)),(.string (⟨#[73,78,76,73,78,69,95,70,82,65,71,77,69,78,84]⟩:BA))] 9);
 ((1=1)/\(1=1)/\True)/\Ix (some (adr C.heap.size)) m 3 fun E=>Ls D (E.add (m.toNat*1)) fun F=>True/\True/\(let G:=D.alloc (.cells #[.slice t u v,.string F] 101);
 True/\Ap 98 (.slice f g i) (.slice (some (adr D.heap.size)) 1 1) G fun H I J K=>(KeepT 67 G K/\True)/\True/\True/\Cl 120 #[.slice x y z] K (fun L M N O=>(KeepT 67 K O/\True)/\Ap 98 (.slice H I J) (.slice L M N) O fun P Q S U=>(KeepT 67 O U/\True)/\(d P Q S (wr (j+1)) U/\e P Q S (wr (j+1)) U<e f g i j k)))))) (R (.returned (.slice f g i)) k)))):CP 120 #[.slice a b c] w R:=
 vcq Tryz.func120 [5] [(8,⟨[(3,.slice),(8,.int .i64)],[]⟩)] [.l (.slice a b c)] h
theorem q_C (a:BA)(w:World)(R:EW)(h:
 (Br (a.toList==(⟨#[109,117,116,97,116,105,111,110]⟩:BA).toList) (R (.returned (.string (⟨#[77,85,84,65,84,73,79,78]⟩:BA))) w) ((Br (a.toList==(⟨#[115,117,98,115,99,114,105,112,116,105,111,110]⟩:BA).toList) (R (.returned (.string (⟨#[83,85,66,83,67,82,73,80,84,73,79,78]⟩:BA))) w) (R (.returned (.string (⟨#[81,85,69,82,89]⟩:BA))) w))))):CP 119 #[.string a] w R:=
 vcq Tryz.func119 [] [] [.l (.str a)] h
variable [DB]
def AppT (t T n:Nat):Prop:=∃ (i:TypeInfo) (z:Value) (bytes:Nat),Tryz.prog.underlying t=some (.slice T)/\Tryz.prog.info? T=some i/\i.zero=some z/\i.size=n/\i.bytes=bytes/\z.cells.size=n/\0<n/\bytes<=4096
def Acc {α:Type}(wb w:World)(T n:Nat)(R:α->List Value->Prop)(A:OA)(L C:Nat)(xs:List α):Prop:=
 EF wb w/\L=xs.length/\∃ cells,Own wb.heap.size w T n A L C cells/\Flat n R xs cells
section
variable {α:Type} {wb w w':World} {t T n:Nat} {R:α->List Value->Prop} {A:OA} {L C:Nat} {xs ys:List α} {x:α}
theorem Acc.nil (h:EF wb w):Acc wb w T n R none 0 0 ([]:List α):=⟨h,rfl,[],Own.nil ..,.nil⟩
theorem Acc.step (h:Acc wb w T n R A L C xs)(hx:EF w w'):Acc wb w' T n R A L C xs:=by
 obtain ⟨h1,h2,cells,h3,h4⟩:=h;exact ⟨h1.then hx,h2,cells,h3.keep hx fun _ _=>id,h4⟩
theorem Acc.sl (h:Acc wb w T n R A L C xs)(hn:0<n)(hl:xs.length<=4194304):SlL w T n R A L C xs:=by
 obtain ⟨h1,h2,cells,h3,h4⟩:=h;exact h3.sl h4 hn (by omega)
theorem Acc.one (ha:AppT t T n)(hlen:∀ x cs,R x cs->cs.length=n)(h:Acc wb w T n R A L C xs){cs:List Value}(hr:R x cs)(hsm:∀ v∈cs,a_v v)(h2:xs.length<16777216):
  ∃ (A':OA) (C':Nat) (w':World),(Go.builtin .append #[t,t] t #[false,false] #[.slice A L C,.slice (some (adr w.heap.size)) 1 1]).run Tryz.prog (w.alloc (.cells cs.toArray T))=.ok (.value (.slice A' (L+1) C')) w'/\
   Acc wb w' T n R A' (L+1) C' (xs++[x])/\∀ T',T'≠T->KeepT T' (w.alloc (.cells cs.toArray T)) w':=by
 obtain ⟨i,z,bytes,a1,a2,a3,a4,a5,a6,a7,a8⟩:=ha;obtain ⟨h1,hL,cells,h3,h4⟩:=h;obtain ⟨A',C',w',r,⟨cells',o',f'⟩,hx,hk⟩:=d_y t T i z n bytes a1 a2 a3 a4 a5 a6 a7 a8 h3 h1.size h4 (hlen _ _ hr) hsm hr hlen (by omega) t #[false,false];refine ⟨A',C',w',r,⟨h1.trans hx fun b hb hbl=>?_,by rw [la_,hL];rfl,cells',o',f'⟩,hk⟩;have:=(h3.base b hbl).1;omega
theorem Acc.more (ha:AppT t T n)(hlen:∀ x cs,R x cs->cs.length=n)(h:Acc wb w T n R A L C xs){a:OA}{l c:Nat}(hr:SlL w T n R a l c ys)(h2:xs.length+ys.length<=16777216):
  ∃ (A':OA) (C':Nat) (w':World),(Go.builtin .append #[t,t] t #[false,false] #[.slice A L C,.slice a l c]).run Tryz.prog w=.ok (.value (.slice A' (L+l) C')) w'/\
   Acc wb w' T n R A' (L+l) C' (xs++ys)/\∀ T',T'≠T->KeepT T' w w':=by
 obtain ⟨i,z,bytes,a1,a2,a3,a4,a5,a6,a7,a8⟩:=ha;obtain ⟨h1,hL,cells,h3,h4⟩:=h;have hl:=hr.len.1;obtain ⟨A',C',w',r,⟨cells',o',f'⟩,hx,-⟩:=c_7 t T i z n bytes a1 a2 a3 a4 a5 a6 a7 a8 h3 h1.size h4 hr hlen (by omega) t #[false,false];refine ⟨A',C',w',r,⟨h1.trans hx fun b hb hbl=>?_,by rw [la_,hL,hl],cells',o',f'⟩,fun T' hT=>h3.keepT hx hT⟩;have:=(h3.base b hbl).1;omega
theorem Acc.get (h:Acc wb w T n R A L C xs){i:Int}(h0:0<=i)(hi:i<(L:Int)):∃ (p:Addr) (x:α) (cs:List Value),A=some p/\xs[i.toNat]? =some x/\R x cs/\∀ k u,cs[k]? =some u->At w T ((p.add (i.toNat*n)).add k) u:=by
 obtain ⟨h1,h2,cells,h3,h4⟩:=h;obtain ⟨x,hx⟩:∃ x,xs[i.toNat]? =some x:=⟨_,List.getElem?_eq_getElem (by omega)⟩;obtain ⟨cs,g1,g2,g3,g4⟩:=h4.get _ x hx;have hp:∃ p,A=some p:=by
  obtain ⟨-, h|⟨g,cap,cur,e1,-⟩⟩:=h3
  ·obtain ⟨h,-⟩:=h;simp only [Value.slice.injEq] at h;omega
  ·simp only [Value.slice.injEq] at e1;exact ⟨_,e1.1⟩
 obtain ⟨p,rfl⟩:=hp;refine ⟨p,x,cs,rfl,hx,g3,fun k u hu=>?_⟩;obtain ⟨p',hp',ha⟩:=h3.at (g4 k u hu);obtain rfl:p=p':=Option.some.inj hp';rw [add_add'];exact ha
theorem KeepT.at {w w':World}{T:TypeId}(h:KeepT T w w'){a:Addr}{v:Value}(ha:At w T a v):At w' T a v:=by
 obtain ⟨cs,fr,h1,h2⟩:=ha;exact ⟨cs,fr,h _ _ _ h1,h2⟩
theorem KeepT.then {w w' w'':World}{T:TypeId}(h:KeepT T w w')(h':KeepT T w' w''):KeepT T w w'':=fun b c fr hb=>h' b c fr (h b c fr hb)
end
def RUse (w0:World)(x:List Dir × BA)(cs:List Value):Prop:=∃ (a:OA) (l c:Nat),cs=[.slice a l c,.string x.2]/\RDirs w0 a l c x.1
theorem appU:AppT 98 101 2:=⟨Tryz.t101,_,_,by kernel_rfl,by kernel_rfl,rfl,by kernel_rfl,rfl,by kernel_rfl,by omega,by decide⟩
theorem RUse.len {w0:World}(x:List Dir × BA)(cs:List Value):RUse w0 x cs->cs.length=2:=fun ⟨_,_,_,h,_⟩=>by rw [h];rfl
def p_W (k:Int):BA:=if k=0 then l_1 else if k=1 then h_9 else j_0
def spLoc (k:BA):BA:=if k=bMut then bMLoc else if k=bSub then bSLoc else bQLoc
mutual
def usS:Sel->List (List Dir × BA)
 | .mk k _ _ _ _ dirs kids=>(dirs,p_W k)::usL kids
def usL:List Sel->List (List Dir × BA)
 | []=>[]
 | s::l=>usS s++usL l
end
theorem p_3:∀ l:List Sel,usL l=l.flatMap usS
 | []=>rfl
 | s::l=>by simp [usL,p_3 l]
theorem p_N:∀ l:List Sel,(usL l).length=selL l
 | []=>rfl
 | .mk k al n on args dirs kids::l=>by
  simp only [usL,usS,selL,selS,la_,List.length_cons,p_N kids,p_N l];omega
theorem take_snoc' {α:Type}{xs:List α}{i:Int}{x:α}(h0:0<=i)(hx:xs[i.toNat]? =some x):xs.take (i+1).toNat=xs.take i.toNat++[x]:=by
 rw [show (i+1).toNat=i.toNat+1 by omega,List.take_add_one,hx];rfl
theorem q_p {α β:Type}(f:α->List β){xs:List α}{i:Int}{x:α}(h0:0<=i)(hx:xs[i.toNat]? =some x):(xs.take (i+1).toNat).flatMap f=(xs.take i.toNat).flatMap f++f x:=by
 rw [take_snoc' h0 hx,List.flatMap_append];simp
theorem q_q {α β:Type}(f:α->List β)(xs:List α)(j:Nat):((xs.take j).flatMap f).length<=(xs.flatMap f).length:=by
 have:xs.flatMap f=(xs.take j).flatMap f++(xs.drop j).flatMap f:=by rw [<- List.flatMap_append,List.take_append_drop]
 rw [this,la_];omega
theorem q_E {s:Sel}:∀ {l:List Sel},s∈l->selS s<=selL l
 | t::l,h=>by
  simp only [selL];rcases mc_.1 h with rfl|h
  ·omega
  ·have:=q_E h;omega
abbrev USof (w0:World)(xs:List Sel):Prop:=∀ (a:OA) (l c:Nat) (w:World),EF w0 w->RSels w0 a l c xs->a_z xs->selL xs<=2097152->
 CP 120 #[.slice a l c] w fun e w'=>∃ A L C,e=.returned (.slice A L C)/\Acc w w' 101 2 (RUse w0) A L C (usL xs)
theorem p_Y {a:OA}{l c:Nat}{s:BA}(h:s.size<=4194304):∀ v∈[Value.slice a l c,.string s],a_v v:=fun v hv=>by
 simp only [mc_,nn_,or_false] at hv;rcases hv with rfl|rfl
 ·rfl
 ·exact h
theorem q_n {w0:World}{xs:List Sel}(IH:∀ k al n on args dirs kids,Sel.mk k al n on args dirs kids∈xs->USof w0 kids):USof w0 xs:=by
 intro a l c w hw0 hl hok hfew;obtain ⟨e1,e3⟩:=hl.len;rw [<- p_N,p_3] at hfew;rw [p_3];refine q_J a l c w _ ⟨fun A L C i w1=>0<=i/\i<=l/\Acc w w1 101 2 (RUse w0) A L C ((xs.take i.toNat).flatMap usS),fun _ _ _ i _=>((l:Int)-i).toNat,⟨by omega,by omega,Acc.nil (Ext.refl w)⟩,?_⟩;rintro A L C i w1 ⟨h0,hi,ac⟩;refine ⟨fun hlt=>?_,fun hge=>?_⟩
 ·have hlt:=odt hlt;have x1:=hw0.then ac.1;obtain ⟨p,x,hp,hxs,cs,hc,hv⟩:=hl.get h0 hlt;have hmem:=mg_ hxs;have hokx:=b_9.1 hok x hmem;have hsn:=q_p usS h0 hxs;have hle:=q_q usS xs (i+1).toNat;have hsel:=q_E hmem;rw [<- p_N xs,p_3] at hsel;obtain ⟨k,al,n,on,args,dirs,kids⟩:=x;have IHk:=IH k al n on args dirs kids hmem;obtain ⟨a1,l1,c1,a2,l2,c2,a3,l3,c3,rfl,hv1,hv2,hv3⟩:=c_w.1 hv;obtain ⟨⟨_,_,hc0⟩,hs0,⟨_,_,hc1⟩,hs1,⟨_,_,hc2⟩,hs2,⟨_,_,hc3⟩,hs3,⟨_,_,hc4⟩,hs4,⟨_,_,hc5⟩,hs5,⟨_,_,hc6⟩,-⟩:=hc;simp only [okSel] at hokx;obtain ⟨hk,-, -, hkids,-⟩:=hokx;simp only [selS] at hsel;rw [hsn,show usS (.mk k al n on args dirs kids)=(dirs,p_W k)::usL kids by simp only [usS],la_,List.length_cons,p_N] at hle;refine ⟨p,hp,⟨h0,hlt⟩,_,x1.cell hc0 id,_,x1.cell hc1 id,_,x1.cell hc2 id,_,x1.cell hc3 id,_,_,_,x1.cell hc4 id,_,_,_,x1.cell hc5 id,_,_,_,x1.cell hc6 id,trivial,trivial,fun w17 e17=>⟨trivial,?_⟩⟩;have hx17:EF w1 w17:=by rw [e17];exact ((Ext.refl w1).alloc _).drew
  have B18:=Blk.made w17 9 [.string l_1,.string h_9,.string j_0];have hx18:EF w17 (w17.alloc (.cells #[.string l_1,.string h_9,.string j_0] 9)):=(Ext.refl w17).alloc _;have hs:(p_W k).size<=4194304:=by rcases hk with rfl|rfl|rfl<;>exact Nat.le_of_ble_eq_true rfl
  have hsc:(w17.alloc (.cells #[.string l_1,.string h_9,.string j_0] 9)).cell? ((adr w17.heap.size).add (k.toNat*1))=some (.string (p_W k)):=by
   rcases hk with rfl|rfl|rfl
   ·exact (B18.at (j:=0) rfl).cell
   ·exact (B18.at (j:=1) rfl).cell
   ·exact (B18.at (j:=2) rfl).cell
  refine ⟨⟨rfl,rfl,trivial⟩,_,rfl,⟨by omega,by omega⟩,p_W k,hsc,trivial,trivial,trivial,?_⟩;obtain ⟨A2,C2,w23,r23,ac23,k23⟩:=((ac.step hx17).step hx18).one appU RUse.len (x:=(dirs,p_W k)) (cs:=[.slice a2 l2 c2,.string (p_W k)]) ⟨a2,l2,c2,rfl,hv2⟩ (p_Y hs) (by omega);refine ⟨A2,L+1,C2,w23,r23,⟨k23 _ (by decide),trivial⟩,trivial,trivial,?_⟩;refine (IHk a3 l3 c3 w23 (hw0.then ac23.1) hv3 hkids (by omega)).mono ?_;rintro _ w25 ⟨A3,L3,C3,rfl,ac25⟩;have hlk:=p_N kids;obtain ⟨A4,C4,w28,r28,ac28,k28⟩:=(ac23.step ac25.1).more appU RUse.len (ac25.sl (by omega) (by omega)) (by rw [la_,List.length_cons,List.length_nil];omega);refine ⟨A3,L3,C3,rfl,⟨ac25.1.keepT _,trivial⟩,A4,L+1+L3,C4,w28,r28,⟨k28 _ (by decide),trivial⟩,?_⟩;rw [a_a h0 (by omega)];refine next h0 hlt ?_
  rw [hsn,show usS (.mk k al n on args dirs kids)=[(dirs,p_W k)]++usL kids by simp only [usS];rfl,<- List.append_assoc];exact ac28
 ·have hle:=odf hge;rw [tl_ (by omega)] at ac;exact ⟨A,L,C,rfl,ac⟩
theorem p_1 {w0:World}:∀ (d:Nat) (xs:List Sel),SizeOf.sizeOf xs<d->USof w0 xs
 | 0,_,h=>by omega
 | d+1,xs,h=>q_n fun k al n on args dirs kids hm=>p_1 d kids (by
   have:=List.sizeOf_lt_of_mem hm;simp only [Sel.mk.sizeOf_spec] at this;omega)
theorem q_v (w0:World)(xs:List Sel):USof w0 xs:=p_1 _ xs (Nat.lt_succ_self _)
theorem q_A (s:BA)(w:World):CP 119 #[.string s] w fun e w'=>e=.returned (.string (spLoc s))/\w'=w:=by
 refine q_C s w _ ⟨fun h=>⟨?_,rfl⟩,fun h=>⟨fun h'=>⟨?_,rfl⟩,fun h'=>⟨?_,rfl⟩⟩⟩
 ·rw [spLoc,if_pos (a_b.1 h)]
 ·rw [spLoc,if_neg (a_f.1 h),if_pos (a_b.1 h')]
 ·rw [spLoc,if_neg (a_f.1 h),if_neg (a_f.1 h')]
theorem q_t (s:BA):(spLoc s).size<=4194304:=by
 unfold spLoc;split
 ·exact Nat.le_of_ble_eq_true rfl
 ·split<;>exact Nat.le_of_ble_eq_true rfl
def usO (x:OpD):List (List Dir × BA):=[(x.dirs,spLoc x.kind)]++(x.vars.map fun v=>(v.dirs,d_Y))++usL x.kids
def usF (x:Frag):List (List Dir × BA):=[(x.dirs,d_z)]++usL x.kids
def usesD (ops:List OpD)(frags:List Frag):List (List Dir × BA):=ops.flatMap usO++frags.flatMap usF
theorem q_O {α β:Type}{f:α->List β}{g:α->Nat}:∀ {l:List α},(∀ x∈l,(f x).length<=g x)->(l.flatMap f).length<=(l.map g).sum
 | [],_=>by simp
 | x::l,h=>by
  have h1:=h x (by simp);have h2:=q_O (l:=l) (f:=f) (g:=g) fun y hy=>h y (by simp [hy]);simp only [List.flatMap_cons,la_,List.map_cons,List.sum_cons];omega
theorem q_R (x:OpD):(usO x).length<=opW x:=by
 have h1:=l_h x.kids;have h2:x.vars.length<=varsW x.vars:=f_I fun y _=>by simp only [varW];omega
 simp only [usO,opW,la_,List.length_cons,List.length_nil,List.length_map,p_N];omega
theorem q_Q (x:Frag):(usF x).length<=fragW x:=by
 have h1:=l_h x.kids;simp only [usF,fragW,la_,List.length_cons,List.length_nil,p_N];omega
theorem q_z (ops:List OpD)(frags:List Frag):(usesD ops frags).length<=docW ops frags:=by
 have h1:=q_O (l:=ops) fun x _=>q_R x;have h2:=q_O (l:=frags) fun x _=>q_Q x;simp only [usesD,docW,la_];omega
theorem q_Z {w0 w:World}{a:OA}{l c:Nat}{a':OA}{l' c':Nat}{ops:List OpD}{frags:List Frag}(hw0:EF w0 w)(hl:ROps w0 a l c ops)(hl':a_X w0 a' l' c' frags)(ok1:∀ x∈ops,okOp x)(ok2:∀ x∈frags,b_j x)(hs:docW ops frags<=2097152):
  CP 66 #[.agg #[.slice a l c,.slice a' l' c']] w fun e w'=>∃ A L C,e=.returned (.slice A L C)/\Acc w w' 101 2 (RUse w0) A L C (usesD ops frags):=by
 obtain ⟨e1,e3⟩:=hl.len;obtain ⟨e1',e3'⟩:=hl'.len;have hul:=lt_ (q_z ops frags) hs;have hsel:=lt_ (q_K ops frags) hs;unfold e_O at hsel;have hs1:∀ x∈ops,selL x.kids<=2097152:=fun x hx=>by
  have:=q_e (fun x:OpD=>selL x.kids) hx;omega
 have hs2:∀ x∈frags,selL x.kids<=2097152:=fun x hx=>by
  have:=q_e (fun x:Frag=>selL x.kids) hx;omega
 simp only [usesD,la_] at hul;have hx0:=(Ext.refl (X:=fun _=>False) w).alloc (.cells #[.slice a l c,.slice a' l' c'] 30);refine q_1 a l c a' l' c' w _ ⟨trivial,?_⟩;refine ⟨fun A L C i w1=>0<=i/\i<=l/\Acc w w1 101 2 (RUse w0) A L C ((ops.take i.toNat).flatMap usO),fun _ _ _ i _=>((l:Int)-i).toNat,⟨by omega,by omega,Acc.nil hx0⟩,?_⟩;rintro A L C i w1 ⟨h0,hi,ac⟩;refine ⟨fun hlt=>?_,fun hge=>?_⟩
 ·have hlt:=odt hlt;have x1:=hw0.then ac.1;obtain ⟨p,x,hp,hxs,cs,hc,a1,l1,c1,a2,l2,c2,a3,l3,c3,rfl,hv1,hv2,hv3⟩:=hl.get h0 hlt;obtain ⟨⟨_,_,hc0⟩,hs0,⟨_,_,hc1⟩,hs1',⟨_,_,hc2⟩,hs2',⟨_,_,hc3⟩,hs3,⟨_,_,hc4⟩,-⟩:=hc;have hmem:=mg_ hxs;have hsn:=q_p usO h0 hxs;have hle:=q_q usO ops (i+1).toNat;have hkl:=hs1 x hmem;obtain ⟨d1,d3⟩:=hv1.len;rw [hsn] at hle;simp only [usO,la_,List.length_cons,List.length_nil,List.length_map,p_N] at hle;refine ⟨p,hp,⟨h0,hlt⟩,_,x1.cell hc0 id,_,x1.cell hc1 id,_,_,_,x1.cell hc2 id,_,_,_,x1.cell hc3 id,_,_,_,x1.cell hc4 id,trivial,trivial,fun w17 e17=>?_⟩;have hx17:EF w1 w17:=by rw [e17];exact ((Ext.refl w1).alloc _).drew
  refine (q_A x.kind w17).mono ?_;rintro _ w19 ⟨rfl,rfl⟩;obtain ⟨A2,C2,w23,r23,ac23,k23⟩:=(ac.step hx17).one appU RUse.len (x:=(x.dirs,spLoc x.kind)) (cs:=[.slice a2 l2 c2,.string (spLoc x.kind)]) ⟨a2,l2,c2,rfl,hv2⟩ (p_Y (q_t _)) (by omega);refine ⟨_,rfl,⟨(Ext.refl _).keepT _,(Ext.refl _).keepT _,trivial⟩,⟨rfl,trivial⟩,trivial,trivial,trivial,A2,L+1,C2,w23,r23,⟨k23 _ (by decide),k23 _ (by decide),trivial⟩,trivial,trivial,?_⟩;refine ⟨fun A L C j w2=>0<=j/\j<=l1/\Acc w w2 101 2 (RUse w0) A L C ((ops.take i.toNat).flatMap usO++[(x.dirs,spLoc x.kind)]++(x.vars.take j.toNat).map fun v=>(v.dirs,d_Y)),fun _ _ _ j _=>((l1:Int)-j).toNat,⟨by omega,by omega,by simpa using ac23⟩,?_⟩;rintro A3 L3 C3 j w2 ⟨j0,hj,ac2⟩;refine ⟨fun hjl=>?_,fun hjg=>?_⟩
  ·have hjl:=odt hjl;have x2:=hw0.then ac2.1;obtain ⟨p2,y,hp2,hys,cs2,hc',n,b1,m1,g1,nn,b2,m2,g2,b3,m3,g3,rfl,hw1,hw2,hw3⟩:=hv1.get j0 hjl;obtain ⟨⟨_,_,hd0⟩,hz0,⟨_,_,hd1⟩,hz1,⟨_,_,hd2⟩,hz2,⟨_,_,hd3⟩,hz3,⟨_,_,hd4⟩,hz4,⟨_,_,hd5⟩,-⟩:=hc';have hy37:EF w2 (w2.alloc (.cells #[.string y.name,.string n,.slice b1 m1 g1,.bool nn,.slice b2 m2 g2,.slice b3 m3 g3] 59)):=(Ext.refl w2).alloc _;obtain ⟨A4,C4,w40,r40,ac40,k40⟩:=(ac2.step hy37).one appU RUse.len (x:=(y.dirs,d_Y)) (cs:=[.slice b3 m3 g3,.string d_Y]) ⟨b3,m3,g3,rfl,hw3⟩ (p_Y (by decide)) (by
    simp only [la_,List.length_cons,List.length_nil,List.length_map,List.length_take];omega)
   refine ⟨p2,hp2,⟨j0,hjl⟩,_,x2.cell hd0 id,_,x2.cell hd1 id,_,_,_,x2.cell hd2 id,_,x2.cell hd3 id,_,_,_,x2.cell hd4 id,_,_,_,x2.cell hd5 id,trivial,trivial,trivial,trivial,A4,L3+1,C4,w40,r40,⟨k40 _ (by decide),k40 _ (by decide),k40 _ (by decide),trivial⟩,?_⟩;rw [a_a j0 (by omega)];refine next j0 hjl ?_
   rw [take_snoc' j0 hys,List.map_append,<- List.append_assoc];exact ac40
  ·have hje:=odf hjg;rw [tl_ (l:=x.vars) (by omega)] at ac2;refine (q_v w0 x.kids a3 l3 c3 w2 (hw0.then ac2.1) hv3 (ok1 x hmem).2.2.2 hkl).mono ?_;rintro _ w42 ⟨A5,L5,C5,rfl,ac42⟩;have hlk:=p_N x.kids;obtain ⟨A6,C6,w45,r45,ac45,k45⟩:=(ac2.step ac42.1).more appU RUse.len (ac42.sl (by omega) (by omega)) (by
    simp only [la_,List.length_cons,List.length_nil,List.length_map,p_N];omega)
   refine ⟨A5,L5,C5,rfl,⟨ac42.1.keepT _,ac42.1.keepT _,trivial⟩,A6,L3+L5,C6,w45,r45,⟨k45 _ (by decide),k45 _ (by decide),trivial⟩,?_⟩;rw [a_a h0 (by omega)];refine next h0 hlt ?_
   rw [hsn];simpa only [usO,List.append_assoc] using ac45
 ·have hle:=odf hge;rw [tl_ (by omega)] at ac;refine ⟨fun A L C i w1=>0<=i/\i<=l'/\Acc w w1 101 2 (RUse w0) A L C (ops.flatMap usO++(frags.take i.toNat).flatMap usF),fun _ _ _ i _=>((l':Int)-i).toNat,⟨by omega,by omega,by simpa using ac⟩,?_⟩;clear ac hle hge h0 hi;rintro A L C i w1 ⟨h0,hi,ac⟩;refine ⟨fun hlt=>?_,fun hge=>?_⟩
  ·have hlt:=odt hlt;have x1:=hw0.then ac.1;obtain ⟨p,x,hp,hxs,cs,hc,a2,l2,c2,a3,l3,c3,rfl,hv2,hv3⟩:=hl'.get h0 hlt;obtain ⟨⟨_,_,hc0⟩,hs0,⟨_,_,hc1⟩,hs1',⟨_,_,hc2⟩,hs2',⟨_,_,hc3⟩,-⟩:=hc;have hmem:=mg_ hxs;have hsn:=q_p usF h0 hxs;have hle:=q_q usF frags (i+1).toNat;have hkl:=hs2 x hmem;rw [hsn] at hle;simp only [usF,la_,List.length_cons,List.length_nil,p_N] at hle;have hx57:EF w1 (w1.alloc (.cells #[.string x.name,.string x.on,.slice a2 l2 c2,.slice a3 l3 c3] 63)):=(Ext.refl w1).alloc _;obtain ⟨A2,C2,w60,r60,ac60,k60⟩:=(ac.step hx57).one appU RUse.len (x:=(x.dirs,d_z)) (cs:=[.slice a2 l2 c2,.string d_z]) ⟨a2,l2,c2,rfl,hv2⟩ (p_Y (by decide)) (by
    simp only [la_,usF];omega)
   refine ⟨p,hp,⟨h0,hlt⟩,_,x1.cell hc0 id,_,x1.cell hc1 id,_,_,_,x1.cell hc2 id,_,_,_,x1.cell hc3 id,trivial,trivial,trivial,trivial,A2,L+1,C2,w60,r60,⟨k60 _ (by decide),k60 _ (by decide),trivial⟩,?_⟩;refine (q_v w0 x.kids a3 l3 c3 w60 (hw0.then ac60.1) hv3 (ok2 x hmem).2.1 hkl).mono ?_;rintro _ w62 ⟨A5,L5,C5,rfl,ac62⟩;have hlk:=p_N x.kids;obtain ⟨A6,C6,w65,r65,ac65,k65⟩:=(ac60.step ac62.1).more appU RUse.len (ac62.sl (by omega) (by omega)) (by
    simp only [la_,List.length_cons,List.length_nil,p_N,usF];omega)
   refine ⟨A5,L5,C5,rfl,⟨ac62.1.keepT _,ac62.1.keepT _,trivial⟩,A6,L+1+L5,C6,w65,r65,⟨k65 _ (by decide),k65 _ (by decide),trivial⟩,?_⟩;rw [a_a h0 (by omega)];refine next h0 hlt ?_
   rw [hsn];simpa only [usF,List.append_assoc] using ac65
  ·have hle:=odf hge;rw [tl_ (by omega)] at ac;exact ⟨A,L,C,rfl,ac⟩
def dirE (u:List Dir × BA)(e:Ev):Prop:=e=.dirs u.1∨∃ d∈u.1,e=.dir d u.2
section
variable {tys:List Def} {fs:List Frag} {cx:Option OpD} {e:Ev}
theorem p_6 {loc:BA}{ds:List Dir}(he:slot e=5∨slot e=6):e∈evDs cx loc ds↔dirE (ds,loc) e:=by
 unfold evDs dirE;rw [ma_,mf_];constructor
 ·rintro (⟨d,hd,h⟩|h)
  ·rcases ma_.1 h with h|h
   ·have:=d_8 e h;omega
   ·exact .inr ⟨d,hd,by simpa using h⟩
  ·exact .inl (by simpa using h)
 ·rintro (rfl|⟨d,hd,rfl⟩)
  ·exact .inr (by simp)
  ·exact .inl ⟨d,hd,ma_.2 (.inr (by simp))⟩
theorem q_i (he:slot e=5∨slot e=6):∀ (ks:List Sel) (pd:Option Def),a_z ks->(e∈evL tys fs cx pd ks↔∃ u∈usL ks,dirE u e)
 | [],pd,_=>by simp [evL,usL]
 | .mk k al n on args dirs kids::l,pd,ok=>by
  simp only [a_z,okSel] at ok;have ihl:=q_i he l pd ok.2;have hA:e∉b_B cx args:=fun h=>by have:=d_8 e h;omega
  have hD:∀ loc,e∈evDs cx loc dirs↔dirE (dirs,loc) e:=fun loc=>p_6 he;have hF:∀ s pd',e≠ .fld s pd':=fun s pd' h=>by subst h;simp [slot] at he
  have hI:∀ s pd',e≠ .inl s pd':=fun s pd' h=>by subst h;simp [slot] at he
  have hS:∀ n b pd',e≠ .spread n b pd':=fun n b pd' h=>by subst h;simp [slot] at he
  have key:e∈evS tys fs cx pd (.mk k al n on args dirs kids)↔∃ u∈usS (.mk k al n on args dirs kids),dirE u e:=by
   simp only [evS,usS,mc_,exists_eq_or_imp];by_cases hk0:k=0
   ·have ih:=q_i he kids (nextD tys pd n) ok.1.2.2.2.1;rw [if_pos hk0,p_W,if_pos hk0,ma_,ma_,ma_,hD,ih];simp [hA,hF]
   ·by_cases hk1:k=1
    ·have hkk:=(ok.1.2.2.2.2.1 hk1).2;subst hkk;rw [if_neg hk0,if_pos hk1,p_W,if_neg hk0,if_pos hk1,ma_,hD];simp [hS,usL]
    ·have ih:=q_i he kids (inlD tys pd on) ok.1.2.2.2.1;rw [if_neg hk0,if_neg hk1,p_W,if_neg hk0,if_neg hk1,ma_,ma_,hD,ih];simp [hI]
  simp only [evL,usL,ma_];rw [key,ihl];constructor
  ·rintro (⟨u,hu,h⟩|⟨u,hu,h⟩)
   ·exact ⟨u,.inl hu,h⟩
   ·exact ⟨u,.inr hu,h⟩
  ·rintro ⟨u,hu|hu,h⟩
   ·exact .inl ⟨u,hu,h⟩
   ·exact .inr ⟨u,hu,h⟩
theorem q_o (he:slot e=5∨slot e=6){f:Frag}(ok:b_j f):e∈evFr tys fs cx f↔∃ u∈usF f,dirE u e:=by
 unfold evFr usF;rw [ma_,p_6 he,q_i he _ _ ok.2.1];simp
end
theorem q_L {k:BA}(h:n_X k):spLoc k=opLoc k:=by
 rcases h with rfl|rfl|rfl<;>decide
theorem q_D {c:WCtx}{x:OpD}{e:Ev}(he:slot e=5∨slot e=6)(ok:okOp x):e∈evOp c x↔∃ u∈usO x,dirE u e:=by
 have hV:e∈f_j (some x) x.vars↔∃ v∈x.vars,dirE (v.dirs,d_Y) e:=by
  unfold f_j;rw [ma_,mf_];constructor
  ·rintro (h|⟨v,hv,h⟩)
   ·obtain ⟨v,-, rfl⟩:=mm_.1 h;simp [slot] at he
   ·rcases ma_.1 h with h|h
    ·have:=l_C e h;omega
    ·exact ⟨v,hv,(p_6 he).1 h⟩
  ·rintro ⟨v,hv,h⟩;exact .inr ⟨v,hv,ma_.2 (.inr ((p_6 he).2 h))⟩
 have hO:e∉[Ev.op x]:=fun h=>by
  obtain rfl:e=.op x:=by simpa using h
  simp [slot] at he
 unfold evOp usO;rw [ma_,ma_,ma_,hV,p_6 he,q_i he _ _ ok.2.2.2,q_L ok.1];constructor
 ·rintro (⟨v,hv,h⟩|h|⟨u,hu,h⟩|h)
  ·exact ⟨_,by simp only [ma_,mm_];exact .inl (.inr ⟨v,hv,rfl⟩),h⟩
  ·exact ⟨_,by simp,h⟩
  ·exact ⟨u,by simp [hu],h⟩
  ·exact absurd h hO
 ·rintro ⟨u,hu,h⟩;simp only [ma_,mm_,List.mem_singleton] at hu;rcases hu with (rfl|⟨v,hv,rfl⟩)|hu
  ·exact .inr (.inl h)
  ·exact .inl ⟨v,hv,h⟩
  ·exact .inr (.inr (.inl ⟨u,hu,h⟩))
theorem q_w {c:WCtx}{e:Ev}(he:slot e=5∨slot e=6)(ok1:∀ x∈c.ops,okOp x)(ok2:∀ x∈c.frags,b_j x):DocEv c e↔∃ u∈usesD c.ops c.frags,dirE u e:=by
 have hf:∀ n f,a_h Frag.name c.frags n=some f->∀ cx,e∈evFr c.types c.frags cx f->∃ u∈usesD c.ops c.frags,dirE u e:=fun n f h cx k=>by
  have hm:=(a_U h).1;obtain ⟨u,hu,hd⟩:=(q_o he (ok2 f hm)).1 k;exact ⟨u,ma_.2 (.inr (mf_.2 ⟨f,hm,hu⟩)),hd⟩
 constructor
 ·rintro (⟨x,hx,h|⟨n,f,-, h1,h2⟩⟩|⟨f,hfm,(h|⟨n,g,-, h1,h2⟩)|rfl⟩)
  ·obtain ⟨u,hu,hd⟩:=(q_D he (ok1 x hx)).1 h;exact ⟨u,ma_.2 (.inl (mf_.2 ⟨x,hx,hu⟩)),hd⟩
  ·exact hf n f h1 _ h2
  ·obtain ⟨u,hu,hd⟩:=(q_o he (ok2 f hfm)).1 h;exact ⟨u,ma_.2 (.inr (mf_.2 ⟨f,hfm,hu⟩)),hd⟩
  ·exact hf n g h1 _ h2
  ·simp [slot] at he
 ·rintro ⟨u,hu,hd⟩;rcases ma_.1 hu with hu|hu
  ·obtain ⟨x,hx,hu⟩:=mf_.1 hu;exact .inl ⟨x,hx,.inl ((q_D he (ok1 x hx)).2 ⟨u,hu,hd⟩)⟩
  ·obtain ⟨f,hfm,hu⟩:=mf_.1 hu;exact .inr ⟨f,hfm,.inl (.inl ((q_o he (ok2 f hfm)).2 ⟨u,hu,hd⟩))⟩
end Go.VC
namespace Go.VC
open Go Go.Proofs
theorem s_h {t:TypeId}{d:TypeDesc}{xs:Array Value}{off:Nat}{v:Value}{w:World}(hu:Tryz.prog.underlying t=some d)(hd:(match d with | .struct _=>false| .array _ _=>false|_=>true)=true)(h:xs[off]? =some v):(part t xs off).run Tryz.prog w=.ok v w:=by
 cases d<;>first|(cases hd;done)|simp [part,isAgg,a_l hu,h]
theorem s_k:(Tryz.prog.fieldsOf 196).toList=[⟨("Name"),9,0,false, "", "",0⟩,⟨("Line"),3,1,false, "", "",16⟩,⟨("Column"),3,2,false, "", "",24⟩]:=by kernel_rfl
theorem s_q:Tryz.prog.underlying 196=some (.struct (Tryz.prog.fieldsOf 196)):=by kernel_rfl
theorem s_n:Tryz.prog.underlying 9=some .string:=by kernel_rfl
theorem s_j:Tryz.prog.underlying 3=some (.int .i64):=by kernel_rfl
abbrev dkey (s:BA)(a c:Int):Value:=.agg #[.string s,.int .i64 a,.int .i64 c]
theorem s_A (s s':BA)(a c a' c':Int):∃ z:Bool,∀ w,(Op.equal 196 (dkey s a c) (dkey s' a' c')).run Tryz.prog w=.ok z w:=by
 have hp:Tryz.prog.stoodInHeld 196=false:=by kernel_rfl
 refine ⟨(s.toList==s'.toList)&&((a==a')&&(c==c')),fun w=>?_⟩;show (Op.equalIn (9998+1+1) _ _ _).run Tryz.prog w=_;rw [run_equalIn_agg w (9998+1) 196 _ _ s_q hp,s_k];have e1:=fun (v:Value) (xs:Array Value) (off:Nat) (h:xs[off]? =some v)=>s_h (w:=w) s_n rfl h;have e2:=fun (v:Value) (xs:Array Value) (off:Nat) (h:xs[off]? =some v)=>s_h (w:=w) s_j rfl h;have n1:("Name" :String)≠ "_" :=by decide
 have n2:("Line" :String)≠ "_" :=by decide
 have n3:("Column" :String)≠ "_" :=by decide
 simp only [Op.eqFields,if_pos n1,if_pos n2,if_pos n3,Sem.run_bind,e1 (.string s) #[.string s,.int .i64 a,.int .i64 c] 0 rfl,e1 (.string s') #[.string s',.int .i64 a',.int .i64 c'] 0 rfl,Result.andThen_ok,run_equalIn_string w 9998 9 s s' s_n];cases (s.toList==s'.toList)
 ·simp
 ·simp only [Bool.not_true,Bool.false_eq_true,if_false,Sem.run_bind,e2 (.int .i64 a) #[.string s,.int .i64 a,.int .i64 c] 1 rfl,e2 (.int .i64 a') #[.string s',.int .i64 a',.int .i64 c'] 1 rfl,Result.andThen_ok,run_equalIn_int w 9998 3 .i64 .i64 a a' s_j];cases (a==a')
  ·simp
  ·simp only [Bool.not_true,Bool.false_eq_true,if_false,Sem.run_bind,e2 (.int .i64 c) #[.string s,.int .i64 a,.int .i64 c] 2 rfl,e2 (.int .i64 c') #[.string s',.int .i64 a',.int .i64 c'] 2 rfl,Result.andThen_ok,run_equalIn_int w 9998 3 .i64 .i64 c c' s_j];cases (c==c')<;>simp
theorem s_i (b:Bool)(s:BA)(a c:Int)(w:World):(Instr.checkKey b 10000 196 (dkey s a c)).run Tryz.prog w=.ok () w:=by
 show (Instr.checkKey b (9998+1+1) _ _).run Tryz.prog w=_;have e1:=fun (v:Value) (xs:Array Value) (off:Nat) (h:xs[off]? =some v)=>s_h (w:=w) s_n rfl h;have e2:=fun (v:Value) (xs:Array Value) (off:Nat) (h:xs[off]? =some v)=>s_h (w:=w) s_j rfl h;have n1:("Name" :String)≠ "_" :=by decide
 have n2:("Line" :String)≠ "_" :=by decide
 have n3:("Column" :String)≠ "_" :=by decide
 have c9:∀ (v:Value),(Instr.checkKey b (9998+1) 9 v).run Tryz.prog w=.ok () w:=fun v=>by
  generalize 9998=d;simp only [Instr.checkKey,Sem.run_bind,a_l s_n,Result.andThen_ok]
  try rfl
 have c3:∀ (v:Value),(Instr.checkKey b (9998+1) 3 v).run Tryz.prog w=.ok () w:=fun v=>by
  generalize 9998=d;simp only [Instr.checkKey,Sem.run_bind,a_l s_j,Result.andThen_ok]
  try rfl
 generalize hd:9998+1=d at *;simp only [Instr.checkKey,Sem.run_bind,a_l s_q,Result.andThen_ok];rw [<- Array.forIn_toList,s_k];simp [Sem.run_bind,e1 (.string s) #[.string s,.int .i64 a,.int .i64 c] 0 rfl,e2 (.int .i64 a) #[.string s,.int .i64 a,.int .i64 c] 1 rfl,e2 (.int .i64 c) #[.string s,.int .i64 a,.int .i64 c] 2 rfl,c9,c3]
def KEnt (es:List MapEntry):Prop:=∀ e∈es,(∃ s a c,e.key=dkey s a c)/\e.val=.bool true
theorem s_s (s:BA)(a c:Int):∀ (es:List MapEntry) (i:Nat),KEnt es->(∀ w,(Instr.findAsking 196 (dkey s a c) es i).run Tryz.prog w=.ok none w)∨(es≠[]/\∃ k,∀ w,(Instr.findAsking 196 (dkey s a c) es i).run Tryz.prog w=.ok (some (k,.bool true)) w)
 | [],i,_=>.inl fun w=>by simp [Instr.findAsking]
 | e::es,i,h=>by
  obtain ⟨⟨s',a',c',hk⟩,hv⟩:=h e (by simp);obtain ⟨z,hz⟩:=s_A s s' a c a' c';rw [Instr.findAsking];simp only [Sem.run_bind,hk,hz,Result.andThen_ok];cases z with
  | true=>exact .inr ⟨by simp,i,fun w=>by simp [hv]⟩
  | false=>
   rcases s_s s a c es (i+1) (fun e he=>h e (by simp [he])) with h1|⟨-, k,h1⟩
   ·exact .inl fun w=>by simp [h1]
   ·exact .inr ⟨by simp,k,fun w=>by simp [h1]⟩
theorem s_w (s:BA)(a c:Int)(es:List MapEntry)(h:KEnt es):(∀ w,(Instr.findKey 196 (dkey s a c) es).run Tryz.prog w=.ok none w)∨(es≠[]/\∃ k,∀ w,(Instr.findKey 196 (dkey s a c) es).run Tryz.prog w=.ok (some (k,.bool true)) w):=by
 have e:∀ w,(Instr.findKey 196 (dkey s a c) es).run Tryz.prog w=(Instr.findAsking 196 (dkey s a c) es).run Tryz.prog w:=fun w=>by
  unfold Instr.findKey;simp only [Sem.run_bind,a_l s_q,Result.andThen_ok];cases es with
  | nil=>simp [Instr.findNow,Instr.findAsking]
  | cons e es=>
   obtain ⟨⟨s',a',c',hk⟩,-⟩:=h e (by simp);simp [Instr.findNow,Instr.sameNow]
 simp only [e];exact s_s s a c es 0 h
def AMap (w:World)(b:Nat)(ne:Prop):Prop:=∃ (ents:Array MapEntry) (cl:Nat),objAt w b=some (.map ents cl)/\KEnt ents.toList/\(ents.toList≠[]->ne)
theorem AMap.made (w:World)(ne:Prop):AMap (w.alloc (.map #[] 0)) w.heap.size ne:=⟨#[],0,by rw [b_R,if_pos rfl],fun e he=>by simp at he,fun h=>absurd rfl h⟩
theorem AMap.ext {w w':World}{b:Nat}{ne:Prop}{X:Nat->Prop}(h:AMap w b ne)(hx:Ext X w w')(hb:¬ X b):AMap w' b ne:=by
 obtain ⟨ents,cl,h1,h2⟩:=h;exact ⟨ents,cl,hx.old b _ hb h1,h2⟩
theorem AMap.mono {w:World}{b:Nat}{ne ne':Prop}(h:AMap w b ne)(hn:ne->ne'):AMap w b ne':=by
 obtain ⟨ents,cl,h1,h2,h3⟩:=h;exact ⟨ents,cl,h1,h2,fun k=>hn (h3 k)⟩
theorem AMap.lt {w:World}{b:Nat}{ne:Prop}(h:AMap w b ne):b<w.heap.size:=by
 obtain ⟨ents,cl,h1,-⟩:=h;exact a_3 h1
theorem AMap.look {w:World}{b:Nat}{ne:Prop}(h:AMap w b ne)(s:BA)(a c:Int):∃ z:Bool,(Instr.lookup 168 (.map (some b)) (dkey s a c) false).run Tryz.prog w=.ok (.bool z) w/\(z=true->ne)/\
  (z=false->∀ w',(∀ o,objAt w b=some o->objAt w' b=some o)->∃ w'',(Instr.mapUpdate 168 (.map (some b)) (dkey s a c) (.bool true)).run Tryz.prog w'=.ok () w''/\AMap w'' b True/\Ext (fun k=>k=b) w' w''):=by
 obtain ⟨ents,cl,h1,h2,h3⟩:=h;have hu:Tryz.prog.underlying 168=some (.map 196 4):=by kernel_rfl
 have hi:Tryz.prog.info? 4=some Tryz.t4:=by kernel_rfl
 have hz:∀ w,(zeroValue 4).run Tryz.prog w=.ok (.bool false) w:=fun w=>by
  have:Tryz.t4.zero=some (.bool false):=rfl;simp [zeroValue,typeInfo,Sem.run_bind,hi,this]
 have hb:w.heap[b]? =some (.map ents cl):=h1;have hg:(getObj b).run Tryz.prog w=.ok (.map ents cl) w:=by simp [getObj,Sem.run,hb]
 rcases s_w s a c ents.toList h2 with hk|⟨hne,k,hk⟩
 ·refine ⟨false,?_,nofun,fun _ w' hw'=>?_⟩
  ·unfold Instr.lookup;simp only [Sem.run_bind,a_l hu,Result.andThen_ok,hg,Sem.run_pure,s_i,hk,hz];rfl
  ·have hb':w'.heap[b]? =some (.map ents cl):=hw' _ h1;have hlt:b<w'.heap.size:=a_3 hb';have hset:∀ o:Obj,Ext (fun k=>k=b) w' { w' with heap:=w'.heap.setIfInBounds b o}:=fun o=>
    ⟨fun k o' hk ho=>by simp only [objAt,Array.getElem?_setIfInBounds];rw [if_neg (fun e=>hk e.symm)];exact ho,by simp,rfl,rfl⟩
   have hat:∀ o:Obj,objAt { w' with heap:=w'.heap.setIfInBounds b o} b=some o:=fun o=>by simp [objAt,hlt]
   refine ⟨{ w' with heap:=w'.heap.setIfInBounds b (.map (ents.push { key:=dkey s a c,val:=.bool true,born:=cl}) (cl+1))},?_,⟨_,_,hat _,fun e he=>?_,fun _=>trivial⟩,hset _⟩
   ·simp [Instr.mapUpdate,Sem.run_bind,a_l hu,getObj,setObj,Sem.run,hb',s_i,hk]
   ·rw [Array.toList_push,ma_,List.mem_singleton] at he;rcases he with he|rfl
    ·exact h2 e he
    ·exact ⟨⟨s,a,c,rfl⟩,rfl⟩
 ·refine ⟨true,?_,fun _=>h3 hne,nofun⟩;unfold Instr.lookup;simp only [Sem.run_bind,a_l hu,Result.andThen_ok,hg,Sem.run_pure,s_i,hk];rfl
set_option maxRecDepth 100000
theorem s_f (a:OA)(b:OA)(c d:Nat)(e:OA)(f g:Nat)(w:World)(R:EW)(h:
 True/\(let i:=w.alloc (.cells #[.slice b c d,.slice e f g] 30);
 Cl 66 #[(.agg #[.slice b c d,.slice e f g])] i (fun j k l m=>(KeepT 30 i m/\True)/\∃ (n:Int->World->Prop) (o:Int->World->Nat),n 0 m/\
 (∀ p:Int,∀ q:World,n p q->
 (Br (decide (p<(k:Int))) (Ix j p k fun r=>Ll q (r.add (p.toNat*2)) fun s t u=>Ls q ((r.add (p.toNat*2)).add 1) fun v=>True/\True/\(let y:=q.alloc (.cells #[.slice s t u,.string v] 101);
 ∃ (z:Int->World->Prop) (A:Int->World->Nat),z 0 y/\
 (∀ B:Int,∀ C:World,z B C->
 (Br (decide (B<(t:Int))) (Ix s B t fun D=>L_sl C (D.add (B.toNat*2)) fun E F G H=>True/\True/\(let J:=C.alloc (.cells #[.string E,.slice F G H] 103);
 CP 67 #[.pointer a,.string E] J (fun K L=>∃ M,∃ N,∃ O P Q,∃ S U V,∃ W,∃ X,K=.returned (.tuple #[(.agg #[.string M,.string N,.slice O P Q,.slice S U V,.bool W]),.bool X])/\(KeepT 30 J L/\KeepT 101 J L/\KeepT 103 J L/\True)/\True/\True/\(let Z:=L.alloc (.cells #[.string M,.string N,.slice O P Q,.slice S U V,.bool W] 105);
 ∀ aa:Bool->World->Prop,(∀ ab:Bool,∀ ac:World,
 ((Br ab (R (.returned (.bool true)) ac) ((z (wr (B+1)) ac/\A (wr (B+1)) ac<A B C))))->
 aa ab ac)->
 (Br X (Cb 68 #[.string v,.slice S U V] Z (fun ad ae=>(KeepT 30 Z ae/\KeepT 101 Z ae/\KeepT 103 Z ae/\KeepT 105 Z ae/\True)/\aa (!ad) ae)) (aa false Z)))))) ((n (wr (p+1)) C/\o (wr (p+1)) C<o p q)))))) (R (.returned (.bool false)) q)))))):CP 23 #[.pointer a,(.agg #[.slice b c d,.slice e f g])] w R:=
 vcq Tryz.func23 [3,6,8,9] [(6,⟨[(14,.int .i64)],[]⟩),(20,⟨[(21,.int .i64)],[]⟩),(33,⟨[(40,.bool)],[]⟩)] [.l (.optr a),.agg [.slice b c d,.slice e f g]] h
set_option maxRecDepth 100000
theorem q_s (a:OA)(b:BA)(w:World)(R:EW)(h:
 True/\(let c:=w.alloc (.cells #[(.string (⟨#[]⟩:BA)),(.string (⟨#[]⟩:BA)),.slice none 0 0,.slice none 0 0,.bool false] 105);
 ∀ d,d=c.drew->Pt a fun e=>Ll d (e.add 2) fun f g i=>CP 58 #[] d (fun j k=>∃ l m n,∃ o p q,∃ r s t,∃ u v x,∃ y z A,j=.returned (.agg #[.slice l m n,.slice o p q,.slice r s t,.slice u v x,.slice y z A])/\(KeepT 105 d k/\True)/\((k.cell? (e.add 2)=d.cell? (e.add 2))/\True)/\Ap 23 (.slice r s t) (.slice f g i) k fun B C D E=>(KeepT 105 k E/\True)/\True/\∃ (F:Int->BA->BA->OA->Nat->Nat->OA->Nat->Nat->Bool->World->Prop) (G:Int->BA->BA->OA->Nat->Nat->OA->Nat->Nat->Bool->World->Nat),F 0 (⟨#[]⟩:BA) (⟨#[]⟩:BA) none 0 0 none 0 0 false E/\
 (∀ H:Int,∀ I:BA,∀ J:BA,∀ (K:OA) (L M:Nat),∀ (N:OA) (O P:Nat),∀ Q:Bool,∀ S:World,F H I J K L M N O P Q S->
 (Br (decide (H<(C:Int))) (Ix B H C fun U=>L_ssllb S (U.add (H.toNat*5)) fun V W X Y Z aa ab ac ad=>True/\True/\(let af:=S.alloc (.cells #[.string V,.string W,.slice X Y Z,.slice aa ab ac,.bool ad] 105);
 (Br (W.toList==b.toList) (True/\(let ag:=setB af (w.heap.size) [.string V,.string W,.slice X Y Z,.slice aa ab ac,.bool ad] 105;
 R (.returned (.tuple #[(.agg #[.string V,.string W,.slice X Y Z,.slice aa ab ac,.bool ad]),.bool true])) ag)) ((F (wr (H+1)) I J K L M N O P Q af/\G (wr (H+1)) I J K L M N O P Q af<G H I J K L M N O P Q S))))) (True/\True/\(let ah:=setB S (w.heap.size) [(.string (⟨#[]⟩:BA)),(.string (⟨#[]⟩:BA)),.slice none 0 0,.slice none 0 0,.bool false] 105;
 R (.returned (.tuple #[(.agg #[(.string (⟨#[]⟩:BA)),(.string (⟨#[]⟩:BA)),.slice none 0 0,.slice none 0 0,.bool false]),.bool false])) ah))))))):CP 67 #[.pointer a,.string b] w R:=
 vcq Tryz.func67 [4,7] [(6,⟨[(16,.int .i64)],[(0,[.str,.str,.slice,.slice,.bool])]⟩)] [.l (.optr a),.l (.str b)] h
theorem s_m (a:OA)(b:OA)(c d:Nat)(e:OA)(f g:Nat)(w:World)(R:EW)(h:
 True/\(let i:=w.alloc (.cells #[.slice b c d,.slice e f g] 30);
 Cl 66 #[(.agg #[.slice b c d,.slice e f g])] i (fun j k l m=>(KeepT 30 i m/\True)/\∃ (n:Int->World->Prop) (o:Int->World->Nat),n 0 m/\
 (∀ p:Int,∀ q:World,n p q->
 (Br (decide (p<(k:Int))) (Ix j p k fun r=>Ll q (r.add (p.toNat*2)) fun s t u=>Ls q ((r.add (p.toNat*2)).add 1) fun v=>True/\True/\(let y:=q.alloc (.cells #[.slice s t u,.string v] 101);
 ∃ (z:Int->World->Prop) (A:Int->World->Nat),z 0 y/\
 (∀ B:Int,∀ C:World,z B C->
 (Br (decide (B<(t:Int))) (Ix s B t fun D=>L_sl C (D.add (B.toNat*2)) fun E F G H=>True/\True/\(let J:=C.alloc (.cells #[.string E,.slice F G H] 103);
 CP 67 #[.pointer a,.string E] J (fun K L=>∃ M,∃ N,∃ O P Q,∃ S U V,∃ W,∃ X,K=.returned (.tuple #[(.agg #[.string M,.string N,.slice O P Q,.slice S U V,.bool W]),.bool X])/\(KeepT 30 J L/\KeepT 101 J L/\KeepT 103 J L/\True)/\True/\True/\(let Z:=L.alloc (.cells #[.string M,.string N,.slice O P Q,.slice S U V,.bool W] 105);
 (Br (!X) (R (.returned (.bool true)) Z) ((z (wr (B+1)) Z/\A (wr (B+1)) Z<A B C))))))) ((n (wr (p+1)) C/\o (wr (p+1)) C<o p q)))))) (R (.returned (.bool false)) q)))))):CP 22 #[.pointer a,(.agg #[.slice b c d,.slice e f g])] w R:=
 vcq Tryz.func22 [3,6,8,9] [(6,⟨[(14,.int .i64)],[]⟩),(20,⟨[(21,.int .i64)],[]⟩)] [.l (.optr a),.agg [.slice b c d,.slice e f g]] h
variable [DB]
theorem Own.le {b2 b:Nat}{w:World}{T n:Nat}{a:OA}{l c:Nat}{xs:List Value}(h:Own b2 w T n a l c xs)(hb:b<=b2):Own b w T n a l c xs:=
 ⟨h.1,h.2.imp id fun ⟨g,cap,cur,e1,e2,e⟩=>⟨g,cap,cur,e1,lt_ hb e2,e⟩⟩
theorem q_F {α:Type}(t T:TypeId)(i:TypeInfo)(z:Value)(n bytes:Nat)(ht:Tryz.prog.underlying t=some (.slice T))(hi:Tryz.prog.info? T=some i)(hz:i.zero=some z)
  (hsize:i.size=n) (hby:i.bytes=bytes) (hzs:z.cells.size=n) (hn:0<n) (h3:bytes<=4096) {base:Nat} {w:World} {A:OA} {l:Nat} {cells:List Value} {R:α->List Value->Prop} {xs ys:List α}
  (hown:Own base w T n A l l cells) (hb:base<=w.heap.size) (h0:0<l) (hf:Flat n R xs cells) {a':OA} {l' c':Nat} (hl:SlL w T n R a' l' c' ys) (hlen:∀ x cs,R x cs->cs.length=n) (h2:l+l'<=16777216) (ty:TypeId) (fs:Array Bool):
  ∃ (A':OA) (C':Nat) (w':World),(Go.builtin .append #[t,t] ty fs #[.slice A l l,.slice a' l' c']).run Tryz.prog w=.ok (.value (.slice A' (l+l') C')) w'/\
   (∃ cells',Own base w' T n A' (l+l') C' cells'/\Flat n R (xs++ys) cells')/\EF w w':=by
 have hown0:=hown;obtain ⟨news,hfn,hnews⟩:=hl.flat hlen;have e:=hl.len.1;obtain ⟨hc,⟨h1,-⟩|⟨g,cap,cur,e1,e2,e3,e4,e5,e6,e7⟩⟩:=hown
 ·simp only [Value.slice.injEq] at h1;omega
 simp only [Value.slice.injEq] at e1;obtain ⟨rfl,-, rfl⟩:=e1;rcases Nat.eq_zero_or_pos l' with h|h
 ·subst h;have hys:ys=[]:=List.length_eq_zero_iff.1 e.symm;subst hys;cases a' with
  | none=>
   exact ⟨_,_,_,d_u t T i ht hi (Nat.le_refl _) ty fs,⟨cells,hown0,by simpa using hf⟩,Ext.refl w⟩
  | some p=>
   have r:=run_append_room_cells (P:=Tryz.prog) w t ty T i ht hi g 0 l l p 0 c' [] (by simp) (by simp) (by simp) (Nat.le_refl _) (fun j hj=>by simp at hj) (fun j hj=>by simp at hj);refine ⟨some ⟨g,0,none⟩,l,w,?_,⟨cells,hown0,by simpa using hf⟩,Ext.refl w⟩;have r':(Builtin.append_ #[t,t] ty #[.slice (some ⟨g,0,none⟩) l l,.slice (some p) 0 c']).run Tryz.prog w=.ok (.slice (some ⟨g,0,none⟩) (l+0) l) w:=r;simp only [Go.builtin,Sem.run_bind,r',Result.andThen_ok,Sem.run_pure]
 ·cases a' with
  | none=>
   cases ys with
   | nil=>simp at e;omega
   | cons y ys=>
    obtain ⟨p,hp,_⟩:=hl.2.2.2 0 y rfl;cases hp
  | some p=>
   obtain ⟨v',w',r,o,gr⟩:=run_append_arg_grows (P:=Tryz.prog) w t ty T i z n bytes ht hi hz hsize hby hzs hn ⟨g,0,none⟩ l l cells hc (fun j u hu=>by
    obtain ⟨q,hq,ha⟩:=Own.at hown0 hu;cases hq;exact ha.cell) p l' c' news (by rw [hfn.len,e]) (fun j u hu=>by
    obtain ⟨p',hp',_,ha⟩:=hnews j u hu;cases hp';exact ha.cell) (by omega) (by simp only [maxLen];omega) (by
     have:(l+l')*bytes<=16777216*4096:=Nat.mul_le_mul h2 h3;omega)
   have hv:∃ A C,v'=.slice A (l+l') C:=by
    obtain ⟨_,h|⟨g,cap,cur,h,_⟩⟩:=o
    ·exact ⟨none,0,by rw [h.1,h.2]⟩
    ·exact ⟨_,_,h⟩
   obtain ⟨A',C',rfl⟩:=hv;refine ⟨A',C',w',?_,⟨_,Own.le o hb,hf.append hfn⟩,Ext.of_grown gr fun k hk=>by cases hk⟩;simp only [Go.builtin,Sem.run_bind,r,Result.andThen_ok,Sem.run_pure]
def q_y:DirDef:=⟨E0,E0,[],[],false⟩
def dirS (dirs:List DirDef)(n:BA):Option DirDef:=a_h DirDef.name (d_s++dirs) n
def dirG (dirs:List DirDef)(n:BA):DirDef × Bool:=match dirS dirs n with
 | some d=>(d,true)
 | none=>(q_y,false)
theorem q_k {dirs:List DirDef}{n:BA}{f:DirDef}(h:dirS dirs n=some f):dirG dirs n=(f,true):=by rw [dirG,h]
theorem q_j {dirs:List DirDef}{n:BA}(h:dirS dirs n=none):dirG dirs n=(q_y,false):=by rw [dirG,h]
theorem s_z {dirs:List DirDef}{n:BA}:(dirG dirs n).2=true↔dirS dirs n=some (dirG dirs n).1:=by
 cases h:dirS dirs n with
 | none=>simp [q_j h]
 | some d=>simp [q_k h]
theorem RPre.shape {w:World}{k1 k2 k3 k4 k5 k6 k7 k8:Nat}{x:DirDef}{cs:List Value}(h:RPre w (a_y k1 k2 k3 k4 k5 k6 k7 k8) x cs):∃ a l c a' l' c',cs=[.string x.doc,.string x.name,.slice a l c,.slice a' l' c',.bool x.rep]:=by
 rcases h with ⟨a,l,c,a',l',c',rfl,-⟩|h
 ·exact ⟨_,_,_,_,_,_,rfl⟩
 ·simp only [a_y,mc_,nn_,or_false,Prod.mk.injEq] at h;rcases h with ⟨rfl,rfl⟩|⟨rfl,rfl⟩|⟨rfl,rfl⟩|⟨rfl,rfl⟩<;>exact ⟨_,_,_,_,_,_,rfl⟩
section
variable {k:Nat} {A4:OA} {L4 C4:Nat} {A:OA} {L C:Nat} {A3:OA} {L3 C3:Nat} {dirs:List DirDef}
theorem q_m {n:BA}{w:World}(hDB:DB.B<=w.heap.size)(hB:Blk w k 79 [.slice A4 L4 C4,.slice A L C,.slice A3 L3 C3])(hD:a_Y w A3 L3 C3 dirs)(few:dirs.length<=12):
  CP 67 #[.pointer (some (adr k)),.string n] w fun e w'=>∃ cs,e=.returned (.tuple #[.agg cs.toArray,.bool (dirG dirs n).2])/\c_v w' (dirG dirs n).1 cs/\EF w w':=by
 have x3:EF w (w.alloc (.cells #[.string ⟨#[]⟩,.string ⟨#[]⟩,.slice none 0 0,.slice none 0 0,.bool false] 105)):=(Ext.refl w).alloc _;have hz3:=(Blk.made w 105 [.string ⟨#[]⟩,.string ⟨#[]⟩,.slice none 0 0,.slice none 0 0,.bool false]).lt;refine q_s (some (adr k)) n w _ ⟨trivial,fun w4 e4=>?_⟩;have x4:EF w w4:=by rw [e4];exact x3.drew
 have hz4:w.heap.size<w4.heap.size:=Nat.lt_of_lt_of_le hz3 (by rw [e4];exact ((Ext.refl _).drew (X:=fun _=>False)).size);have a4:=(hB.ext x4 id).at (j:=2) rfl;refine ⟨adr k,rfl,_,_,_,a4.cell,?_⟩;refine (l_5 w w4 (lt_ hDB x4.size)).mono ?_;rintro _ w8 ⟨D,T,L0,C0,k1,k2,k3,k4,k5,k6,k7,k8,rfl,x8,-, ⟨cells,oD,fD⟩,hbl,hge⟩;have y8:=x4.then x8;obtain ⟨A14,C14,w15,r15,⟨cells',o15,f15⟩,x15⟩:=q_F 23 105 Tryz.t105 _ 5 _ (by kernel_rfl) (by kernel_rfl) rfl (by kernel_rfl) rfl (by kernel_rfl) (by omega) (by decide) oD x8.size (by omega) fD (R:=RPre w (a_y k1 k2 k3 k4 k5 k6 k7 k8)) (SlL.keep y8.keep (by decide) hD fun _ _ _ h=>.inl h) (fun x cs h=>by
  obtain ⟨a,l,c,a',l',c',rfl⟩:=RPre.shape h;rfl) (by have:=hD.len;omega) 23 #[false,false]
 have y15:=y8.then x15;have bl15:=hbl.keep x15 fun _ _=>id;have hlen:=hD.len;have acc:Acc w4 w15 105 5 (RPre w (a_y k1 k2 k3 k4 k5 k6 k7 k8)) A14 (4+L3) C14 (d_s++dirs):=⟨x8.then x15,by rw [la_];simp [d_s];omega,cells',o15,f15⟩;refine ⟨_,_,_,_,_,_,_,_,_,_,_,_,_,_,_,rfl,⟨x8.keepT _,trivial⟩,⟨x8.cell_eq id a4.cell,trivial⟩,A14,4+L3,C14,w15,r15,⟨x15.keepT _,trivial⟩,trivial,fun i _ _ _ _ _ _ _ _ _ w1=>0<=i/\i<=((4+L3:Nat):Int)/\EF w15 w1/\a_h DirDef.name ((d_s++dirs).take i.toNat) n=none,fun i _ _ _ _ _ _ _ _ _ _=>(((4+L3:Nat):Int)-i).toNat,⟨by omega,by omega,Ext.refl w15,by simp [a_h]⟩,?_⟩;rintro i s19 s20 a21 l21 c21 a22 l22 c22 b23 w1 ⟨h0,hi,hx,hf1⟩;have y1:=y15.then hx;refine ⟨fun hlt=>?_,fun hge'=>?_⟩
 ·have hlt:=odt hlt;obtain ⟨p,x,cs,hp,hxs,hr,hat⟩:=(acc.step hx).get h0 hlt;obtain ⟨a,l,c,a',l',c',rfl⟩:=RPre.shape hr;have y32:=y1.alloc (.cells #[.string x.doc,.string x.name,.slice a l c,.slice a' l' c',.bool x.rep] 105);have h32:=hx.alloc (.cells #[.string x.doc,.string x.name,.slice a l c,.slice a' l' c',.bool x.rep] 105);refine ⟨p,hp,⟨h0,hlt⟩,_,(hat 0 _ rfl).cell,_,(hat 1 _ rfl).cell,_,_,_,(hat 2 _ rfl).cell,_,_,_,(hat 3 _ rfl).cell,_,(hat 4 _ rfl).cell,trivial,trivial,fun he=>?_,fun hne=>?_⟩
  ·rw [q_k (show dirS dirs n=some x from c_J hf1 hxs (a_b.1 he))];have yE:=y32.setB (b:=w.heap.size) (.inr (Nat.le_refl _)) [.string x.doc,.string x.name,.slice a l c,.slice a' l' c',.bool x.rep] 105;refine ⟨trivial,_,rfl,?_,yE⟩;rcases hr with hr|hr
   ·exact hr.keep yE.keep
   ·refine m_E (fun y hy=>?_) _ hr;have hs:Ext (fun b=>b=w.heap.size) _ (setB (w1.alloc (.cells #[.string x.doc,.string x.name,.slice a l c,.slice a' l' c',.bool x.rep] 105)) w.heap.size [.string x.doc,.string x.name,.slice a l c,.slice a' l' c',.bool x.rep] 105):=Ext.setB (X:=fun b=>b=w.heap.size) (Ext.refl _) (.inl rfl) _ _;exact ((bl15 y hy).ext h32 id).ext hs fun e=>by
     have:=hge y hy;have e':y.1=w.heap.size:=e;omega
  ·rw [a_a h0 (by omega)];exact next h0 hlt ⟨h32,c_h h0 hf1 hxs (a_f.1 hne)⟩
 ·have hle:=odf hge';have hl4:(d_s++dirs).length=4+L3:=by rw [la_];simp [d_s];omega
  rw [tl_ (by omega)] at hf1;rw [q_j (show dirS dirs n=none from hf1)];have yE:=y1.setB (b:=w.heap.size) (.inr (Nat.le_refl _)) [.string ⟨#[]⟩,.string ⟨#[]⟩,.slice none 0 0,.slice none 0 0,.bool false] 105;exact ⟨trivial,trivial,_,rfl,⟨none,0,0,none,0,0,rfl,SlL.nil ..,SlL.nil ..⟩,yE⟩
variable {a:OA} {l c:Nat} {a':OA} {l' c':Nat} {ops:List OpD} {frags:List Frag} {w:World}
theorem s_l (hDB:DB.B<=w.heap.size)(hB:Blk w k 79 [.slice A4 L4 C4,.slice A L C,.slice A3 L3 C3])(hD:a_Y w A3 L3 C3 dirs)(few:dirs.length<=12)(hl:ROps w a l c ops)(hl':a_X w a' l' c' frags)(ok1:∀ x∈ops,okOp x)(ok2:∀ x∈frags,b_j x)(hs:docW ops frags<=2097152):
  CP 22 #[.pointer (some (adr k)),.agg #[.slice a l c,.slice a' l' c']] w (RetB w fun b=>b=true↔∃ u∈usesD ops frags,∃ d∈u.1,dirS dirs d.name=none):=by
 have hx4:=(Ext.refl (X:=fun _=>False) w).alloc (.cells #[.slice a l c,.slice a' l' c'] 30);have hul:=lt_ (q_z ops frags) hs;refine s_m (some (adr k)) a l c a' l' c' w _ ⟨trivial,?_⟩;refine (q_Z hx4 hl hl' ok1 ok2 hs).mono ?_;rintro _ w6 ⟨A7,L7,C7,rfl,ac⟩;have hL7:=ac.2.1;have y6:=hx4.then ac.1;refine ⟨A7,L7,C7,rfl,⟨ac.1.keepT _,trivial⟩,fun i w1=>0<=i/\i<=L7/\EF w6 w1/\∀ u∈(usesD ops frags).take i.toNat,¬ ∃ d∈u.1,dirS dirs d.name=none,fun i _=>((L7:Int)-i).toNat,⟨by omega,by omega,Ext.refl w6,by simp⟩,?_⟩;rintro i w1 ⟨h0,hi,hx,hn⟩;refine ⟨fun hlt=>?_,fun hge=>?_⟩
 ·have hlt:=odt hlt;obtain ⟨p,⟨ds,loc⟩,cs,hp,hus,hr,hat⟩:=(ac.step hx).get h0 hlt;obtain ⟨b1,m1,d1,rfl,hds⟩:=hr;obtain ⟨e1,e3⟩:=hds.len;replace e1:m1=ds.length:=e1;have hx16:=hx.alloc (.cells #[.slice b1 m1 d1,.string loc] 101);refine ⟨p,hp,⟨h0,hlt⟩,_,_,_,(hat 0 _ rfl).cell,_,(hat 1 _ rfl).cell,trivial,trivial,fun j w2=>0<=j/\j<=m1/\EF w6 w2/\∀ d∈ds.take j.toNat,¬ dirS dirs d.name=none,fun j _=>((m1:Int)-j).toNat,⟨by omega,by omega,hx16,by simp⟩,?_⟩;rintro j w2 ⟨j0,hj,hy,hm⟩;refine ⟨fun hjl=>?_,fun hjg=>?_⟩
  ·have hjl:=odt hjl;obtain ⟨p2,d,hp2,hd,cs2,hc,b2,m2,d2,rfl,hargs⟩:=hds.get j0 hjl;obtain ⟨⟨_,_,hc0⟩,hs0,⟨_,_,hc1⟩,-⟩:=hc;have yy:=y6.then hy;have y25:=hy.alloc (.cells #[.string d.name,.slice b2 m2 d2] 103);have yy25:=y6.then y25;refine ⟨p2,hp2,⟨j0,hjl⟩,_,yy.cell hc0 id,_,_,_,yy.cell hc1 id,trivial,trivial,?_⟩;refine (q_m (n:=d.name) (lt_ hDB yy25.size) (hB.ext yy25 id) (hD.keep yy25.keep) few).mono ?_;rintro _ w27 ⟨cs27,rfl,⟨a0,l0,c0,a1,l1,c1,rfl,-⟩,x27⟩;have y35:=(y25.then x27).alloc (.cells #[.string (dirG dirs d.name).1.doc,.string (dirG dirs d.name).1.name,.slice a0 l0 c0,.slice a1 l1 c1,.bool (dirG dirs d.name).1.rep] 105);refine ⟨_,_,_,_,_,_,_,_,_,_,rfl,⟨x27.keepT _,x27.keepT _,x27.keepT _,trivial⟩,trivial,trivial,fun h=>?_,fun h=>?_⟩
   ·refine ⟨true,rfl,y6.then y35,fun _=>⟨_,mg_ hus,d,mg_ hd,?_⟩,fun _=>rfl⟩;cases hS:dirS dirs d.name with
    | none=>rfl
    | some f=>rw [q_k hS] at h;cases h
   ·rw [a_a j0 (by omega)];refine next j0 hjl ⟨y35,a_g j0 hm hd fun hno=>?_⟩
    rw [q_j hno] at h;cases h
  ·have hall:=a_o e1 hjg hm;rw [a_a h0 (by omega)];exact next h0 hlt ⟨hy,a_g h0 hn hus fun ⟨d,hd,hno⟩=>hall d hd hno⟩
 ·have hall:=a_o hL7 hge hn;exact ⟨false,rfl,y6.then hx,nofun,fun ⟨u,hu,hb⟩=>absurd hb (hall u hu)⟩
def onceN (dirs:List DirDef)(ds:List Dir):List BA:=(ds.filter fun d=>(dirG dirs d.name).2&& !(dirG dirs d.name).1.rep).map Dir.name
end
abbrev s_r (dirs:List DirDef)(u:List Dir × BA):Prop:=∃ d∈u.1,∃ f,dirS dirs d.name=some f/\u.2∉f.locs
section
variable {k:Nat} {A4:OA} {L4 C4:Nat} {A:OA} {L C:Nat} {A3:OA} {L3 C3:Nat} {dirs:List DirDef} {a:OA} {l c:Nat} {a':OA} {l' c':Nat} {ops:List OpD} {frags:List Frag} {w:World}
theorem s_d (hDB:DB.B<=w.heap.size)(hB:Blk w k 79 [.slice A4 L4 C4,.slice A L C,.slice A3 L3 C3])(hD:a_Y w A3 L3 C3 dirs)(few:dirs.length<=12)(hl:ROps w a l c ops)(hl':a_X w a' l' c' frags)(ok1:∀ x∈ops,okOp x)(ok2:∀ x∈frags,b_j x)(hs:docW ops frags<=2097152):
  CP 23 #[.pointer (some (adr k)),.agg #[.slice a l c,.slice a' l' c']] w (RetB w fun b=>b=true↔∃ u∈usesD ops frags,s_r dirs u):=by
 have hx4:=(Ext.refl (X:=fun _=>False) w).alloc (.cells #[.slice a l c,.slice a' l' c'] 30);have hul:=lt_ (q_z ops frags) hs;refine s_f (some (adr k)) a l c a' l' c' w _ ⟨trivial,?_⟩;refine (q_Z hx4 hl hl' ok1 ok2 hs).mono ?_;rintro _ w6 ⟨A7,L7,C7,rfl,ac⟩;have hL7:=ac.2.1;have y6:=hx4.then ac.1;refine ⟨A7,L7,C7,rfl,⟨ac.1.keepT _,trivial⟩,fun i w1=>0<=i/\i<=L7/\EF w6 w1/\∀ u∈(usesD ops frags).take i.toNat,¬ s_r dirs u,fun i _=>((L7:Int)-i).toNat,⟨by omega,by omega,Ext.refl w6,by simp⟩,?_⟩;rintro i w1 ⟨h0,hi,hx,hn⟩;refine ⟨fun hlt=>?_,fun hge=>?_⟩
 ·have hlt:=odt hlt;obtain ⟨p,⟨ds,loc⟩,cs,hp,hus,hr,hat⟩:=(ac.step hx).get h0 hlt;obtain ⟨b1,m1,d1,rfl,hds⟩:=hr;obtain ⟨e1,e3⟩:=hds.len;replace e1:m1=ds.length:=e1;have hx16:=hx.alloc (.cells #[.slice b1 m1 d1,.string loc] 101);refine ⟨p,hp,⟨h0,hlt⟩,_,_,_,(hat 0 _ rfl).cell,_,(hat 1 _ rfl).cell,trivial,trivial,fun j w2=>0<=j/\j<=m1/\EF w6 w2/\∀ d∈ds.take j.toNat,¬ ∃ f,dirS dirs d.name=some f/\loc∉f.locs,fun j _=>((m1:Int)-j).toNat,⟨by omega,by omega,hx16,by simp⟩,?_⟩;rintro j w2 ⟨j0,hj,hy,hm⟩;refine ⟨fun hjl=>?_,fun hjg=>?_⟩
  ·have hjl:=odt hjl;obtain ⟨p2,d,hp2,hd,cs2,hc,b2,m2,d2,rfl,hargs⟩:=hds.get j0 hjl;obtain ⟨⟨_,_,hc0⟩,hs0,⟨_,_,hc1⟩,-⟩:=hc;have yy:=y6.then hy;have y25:=hy.alloc (.cells #[.string d.name,.slice b2 m2 d2] 103);have yy25:=y6.then y25;refine ⟨p2,hp2,⟨j0,hjl⟩,_,yy.cell hc0 id,_,_,_,yy.cell hc1 id,trivial,trivial,?_⟩;refine (q_m (n:=d.name) (lt_ hDB yy25.size) (hB.ext yy25 id) (hD.keep yy25.keep) few).mono ?_;rintro _ w27 ⟨cs27,rfl,⟨a0,l0,c0,a1,l1,c1,rfl,-, hlocs⟩,x27⟩;have z35:EF w27 (w27.alloc (.cells #[.string (dirG dirs d.name).1.doc,.string (dirG dirs d.name).1.name,.slice a0 l0 c0,.slice a1 l1 c1,.bool (dirG dirs d.name).1.rep] 105)):=(Ext.refl w27).alloc _;have y35:=(y25.then x27).then z35;refine ⟨_,_,_,_,_,_,_,_,_,_,rfl,⟨x27.keepT _,x27.keepT _,x27.keepT _,trivial⟩,trivial,trivial,fun K36 hK36=>?_⟩;have key36:∀ (b:Bool) (w':World),EF w6 w'->(b=true↔∃ f,dirS dirs d.name=some f/\loc∉f.locs)->K36 b w':=by
    intro b w' x' hb;refine hK36 b w' ⟨fun h=>⟨true,rfl,y6.then x',fun _=>⟨_,mg_ hus,d,mg_ hd,hb.1 h⟩,fun _=>rfl⟩,fun h=>?_⟩;rw [a_a j0 (by omega)];refine next j0 hjl ⟨x',a_g j0 hm hd fun hbad=>?_⟩
    rw [hb.2 hbad] at h;cases h
   refine ⟨fun h=>?_,fun h=>key36 false _ y35 ⟨nofun,fun ⟨f,hf,_⟩=>?_⟩⟩
   ·have hS:=s_z.1 h;refine (c_in loc (hlocs.keep z35.keep)).mono ?_;rintro _ w40 ⟨b41,rfl,x40,hb41⟩;refine ⟨b41,rfl,⟨x40.keepT _,x40.keepT _,x40.keepT _,x40.keepT _,trivial⟩,key36 _ w40 (y35.then x40) ?_⟩;constructor
    ·intro hb;refine ⟨_,hS,fun hin=>?_⟩;rw [hb41.2 hin] at hb;cases hb
    ·rintro ⟨f,hf,hno⟩;rw [hS] at hf;cases hf;cases b41 with
     | false=>rfl
     | true=>exact absurd (hb41.1 rfl) hno
   ·rw [q_k hf] at h;cases h
  ·have hall:=a_o e1 hjg hm;rw [a_a h0 (by omega)];exact next h0 hlt ⟨hy,a_g h0 hn hus fun ⟨d,hd,hno⟩=>hall d hd hno⟩
 ·have hall:=a_o hL7 hge hn;exact ⟨false,rfl,y6.then hx,nofun,fun ⟨u,hu,hb⟩=>absurd hb (hall u hu)⟩
end
end Go.VC
namespace Go.VC
open Go Go.Proofs
set_option maxRecDepth 100000
set_option maxRecDepth 100000
variable [DB]
abbrev StK (bad:Ev->Prop)(ae cnt:Nat)(l:List Ev)(w:World):Prop:=Cnt ae cnt (l.length*4194304) (∃ e∈l,bad e) w
abbrev InK (bad:Ev->Prop)(ae cnt:Nat)(l:List Ev)(k:Nat)(b:Prop)(w:World):Prop:=Cnt ae cnt (l.length*4194304+k) ((∃ e∈l,bad e)∨b) w
theorem InK.start {bad:Ev->Prop}{ae cnt:Nat}{l:List Ev}{w:World}{b:Prop}(h:StK bad ae cnt l w)(hb:¬ b):InK bad ae cnt l 0 b w:=Cnt.skip h (by omega) ⟨.inl,fun k=>k.elim id fun k=>absurd k hb⟩
theorem InK.good {bad:Ev->Prop}{ae cnt:Nat}{l:List Ev}{w:World}{k k':Nat}{b b':Prop}(h:InK bad ae cnt l k b w)(hk:k<=k')(hb:b↔b'):InK bad ae cnt l k' b' w:=Cnt.skip h (by omega) ⟨fun k=>k.imp id hb.1,fun k=>k.imp id hb.2⟩
theorem InK.told {bad:Ev->Prop}{ae cnt:Nat}{l:List Ev}{w:World}{k k':Nat}{b':Prop}(h:Cnt ae cnt (l.length*4194304+k+1) True w)(hk:k+1<=k')(hb:b'):InK bad ae cnt l k' b' w:=Cnt.skip h (by omega) ⟨fun _=>.inr hb,fun _=>trivial⟩
theorem q_r {α:Type}{nm:α->BA}{l:List α}(h:(l.map nm).Nodup)(k:BA):lastN nm l k=a_h nm l k:=by
 cases hf:a_h nm l k with
 | none=>
  unfold lastN;have:(l.filter fun d=>decide (nm d=k))=[]:=by
   rw [List.filter_eq_nil_iff];intro x hx he;have:=List.find?_eq_none.1 hf x hx;exact this he
  rw [this];rfl
 | some x=>
  obtain ⟨hx,hk⟩:=a_U hf;cases hl:lastN nm l k with
  | none=>
   unfold lastN at hl;have:x∈(l.filter fun d=>decide (nm d=k)):=List.mem_filter.2 ⟨hx,by simpa using hk⟩;rw [List.getLast?_eq_none_iff.1 hl] at this;simp at this
  | some y=>
   have hy:=List.mem_of_getLast? hl;obtain ⟨hy1,hy2⟩:=List.mem_filter.1 hy;rw [p_X h hy1 hx (by rw [hk];simpa using hy2)]
theorem q_M {types:List Def}{dirs:List DirDef}{defs:List SchemaDef}(h:OkSchema types dirs defs)(n:BA):lastN DirDef.name (d_s++dirs) n=dirS dirs n:=by
 refine q_r ?_ n;rw [List.map_append,List.nodup_append];refine ⟨by decide,h.marks.1,fun a ha b hb e=>?_⟩;subst e;obtain ⟨d,hd,rfl⟩:=mm_.1 hb;refine (h.okdirs d hd).1 ?_;simp only [d_s,List.map_cons,List.map_nil,mc_,nn_,or_false] at ha;rcases ha with e|e|e|e
 ·rw [e];exact .tail _ (.head _)
 ·rw [e];exact .head _
 ·rw [e];exact .tail _ (.tail _ (.head _))
 ·rw [e];exact .tail _ (.tail _ (.tail _ (.head _)))
def twD (c:WCtx)(l:List Dir)(j:Nat):Prop:=∃ x,l[j]? =some x/\(∀ f,lastN DirDef.name c.dirs x.name=some f->f.rep=false)/\x.name∈(l.take j).map Dir.name
def badDt (c:WCtx):Ev->Prop
 | .dirs l=>∃ j,twD c l j
 | _=>False
section
variable {c:WCtx} {ae cnt:Nat} {bad:Ev->Prop} {l:List Ev} {w:World} {cx:Option OpD} {co:OA} {vm:Nat} {evs:List Value} {node:Value} {ev:Ev}
end
abbrev unkD (dirs:List DirDef)(ops:List OpD)(frags:List Frag):Prop:=∃ u∈usesD ops frags,∃ d∈u.1,dirS dirs d.name=none
abbrev q_2 (dirs:List DirDef)(ops:List OpD)(frags:List Frag):Prop:=∃ u∈usesD ops frags,¬ (nz (onceN dirs u.1)).Nodup
abbrev s_u (KT:TypeId)(ae:Nat)(X:Addr)(fmt:BA)(A:OA)(L C:Nat)(q:OA)(v18:Value)(w23:World)(K:World->Prop):Prop:=
 CP 116 #[.string fmt,.slice A L C] w23 (fun e24 wv25=>∃ v26:Value,e24=.returned v26/\(KeepT KT w23 wv25/\True)/\((wv25.cell? X=w23.cell? X)/\(wv25.cell? (adr ae)=w23.cell? (adr ae))/\True)/\
   CP 117 #[.pointer q] wv25 (fun e27 wv28=>∃ v29:Value,e27=.returned v29/\(KeepT KT wv25 wv28/\True)/\((wv28.cell? (adr ae)=wv25.cell? (adr ae))/\True)/\(v26.oneCell'=true/\v29.oneCell'=true/\True)/\(let wv30:=wv28.alloc (.cells #[v26,v29] 181);
   ((wv30.cell? (adr ae)=wv28.cell? (adr ae))/\True)/\∃ (g31:FuncId) (cap32:List Value),v18=.func (.func g31) #[] cap32.toArray/\∃ fn33,Tryz.prog.funcs[g31]? =some fn33/\(fn33.name== "runtime.NumGoroutine" ||fn33.body.isNone)=false/\
   CP g31 ([Value.slice (some (adr wv28.heap.size)) 2 2]++cap32).toArray wv30 (fun e34 wv35=>e34=.returned (.tuple #[])/\(KeepT KT wv30 wv35/\True)/\True/\K wv35))))
theorem Cnt.kt {ae cnt m:Nat}{b:Prop}{w w':World}{T:TypeId}(hc:Cnt ae cnt m b w)(h1:T≠161)(h2:T≠3)(hx:Ext (fun k=>k=cnt∨k=ae) w w'):KeepT T w w':=fun k cs fr ho=>by
 obtain ⟨k1,n,k2,-⟩:=hc;refine hx.old k _ (fun e=>?_) ho;rcases e with rfl|rfl
 ·exact h2 (k2.type ho)
 ·exact h1 (k1.type ho)
theorem tellK {KT:TypeId}(h1:KT≠161)(h2:KT≠3){ae cnt m:Nat}{b:Prop}{w17 w23:World}{T:TypeId}{X:Addr}{xv v18:Value}{q:OA}{fmt:BA}{A:OA}{L C:Nat}{K:World->Prop}(hc:Cnt ae cnt m b w17)(hX:At w17 T X xv)(hne:ae≠cnt)(hx:EF w17 w23)
  (hv:v18=.func (.func 108) #[] #[.pointer (some (adr cnt))]) (hK:∀ w',Ext (fun k=>k=cnt∨k=ae) w17 w'->Cnt ae cnt (m+1) True w'->K w'):
  ((w23.cell? X=w17.cell? X)/\(w23.cell? (adr ae)=w17.cell? (adr ae))/\True)/\s_u KT ae X fmt A L C q v18 w23 K:=by
 refine ⟨⟨hx.ceq hX,hx.ceq (hc.1.at (j:=0) rfl),trivial⟩,?_⟩;have X23:=hx.at id hX;have a23:=hx.at id (hc.1.at (j:=0) rfl);refine c_x.mono ?_;rintro _ w25 ⟨v26,rfl,o26,x25⟩;have a25:=x25.at id a23;refine ⟨v26,rfl,⟨x25.keepT _,trivial⟩,⟨x25.ceq X23,x25.ceq a23,trivial⟩,?_⟩;refine j_b.mono ?_;rintro _ w28 ⟨v29,rfl,o29,x28⟩;have a28:=x28.at id a25;have x30:EF w28 (w28.alloc (.cells #[v26,v29] 181)):=(Ext.refl w28).alloc _;have y:EF w17 (w28.alloc (.cells #[v26,v29] 181)):=((hx.then x25).then x28).then x30;refine ⟨v29,rfl,⟨x28.keepT _,trivial⟩,⟨x28.ceq a25,trivial⟩,⟨o26,o29,trivial⟩,⟨x30.ceq a28,trivial⟩,108,[.pointer (some (adr cnt))],hv,_,Tryz.func108,by kernel_rfl,?_⟩;have c30:=hc.ext y id id;refine (n_T c30 hne).mono ?_;rintro _ w35 ⟨rfl,x35,c35⟩;exact ⟨rfl,⟨c30.kt h1 h2 x35,trivial⟩,trivial,hK w35 ((y.toM _).trans x35 fun _ _ e=>e) c35⟩
theorem s_e {c:WCtx}{A:OA}{L C:Nat}{xs:List BA}{s:BA}{w:World}(hwk:Wk c c.w0 w)(h:PSl c.M c.w0 177 (fun s v=>v=.string s) A L C xs):
  CP 118 #[.slice A L C,.string s] w fun e w'=>∃ b:Bool,e=.returned (.bool b)/\w'=w/\(b=true↔s∈xs):=by
 have hl:=h.1;have hl2:=h.2.2.1;refine r_7 A L C s w _ ?_;refine r_8 A L C s w _ ⟨fun i w1=>0<=i/\i<=L/\w1=w/\∀ x∈xs.take i.toNat,x≠s,fun i _=>((L:Int)-i).toNat,⟨by omega,by omega,rfl,by simp⟩,?_⟩;rintro i w1 ⟨h0,hi,rfl,hn⟩;refine ⟨fun hlt=>?_,fun hge=>?_⟩
 ·have hlt:=odt hlt;obtain ⟨p,x,v,hp,hx,hc,rfl⟩:=h.wget hwk (fun _=>rfl) h0 hlt;refine ⟨p,hp,⟨h0,hlt⟩,x,hc,fun he=>?_,fun hne=>?_⟩
  ·obtain rfl:s=x:=a_b.1 he;exact ⟨i,rfl,trivial,_,rfl,rfl,fun _=>mg_ hx,fun _=>by simpa using h0⟩
  ·rw [a_a h0 (by omega)];exact next h0 hlt ⟨rfl,a_g h0 hn hx fun e=>a_f.1 hne e.symm⟩
 ·have hall:=a_o hl hge hn;exact ⟨-1,rfl,trivial,_,rfl,rfl,fun h=>by simp at h,fun h=>absurd rfl (hall s h)⟩
def badDi (c:WCtx):Ev->Prop
 | .dir d loc=>∀ f,lastN DirDef.name c.dirs d.name=some f->loc∉f.locs
 | _=>False
abbrev DV (ae cnt mb mp b:Nat):Prop:=b=cnt∨b=ae∨b=mb∨b=mp
def StDi (bad:Ev->Prop)(ae cnt mb mp:Nat)(l:List Ev)(w:World):Prop:=StB bad ae cnt l w/\Blk w mb 168 [.map (some mp)]/\AMap w mp (∃ e∈l,bad e)
theorem StDi.ext {bad:Ev->Prop}{ae cnt mb mp:Nat}{l:List Ev}{w w':World}{X:Nat->Prop}(h:StDi bad ae cnt mb mp l w)(hx:Ext X w w')(hX:∀ b,DV ae cnt mb mp b->¬ X b):StDi bad ae cnt mb mp l w':=
 ⟨h.1.ext hx (hX _ (.inr (.inl rfl))) (hX _ (.inl rfl)),h.2.1.ext hx (hX _ (.inr (.inr (.inl rfl)))),h.2.2.ext hx (hX _ (.inr (.inr (.inr rfl))))⟩
section
variable {c:WCtx} {ae cnt mb mp:Nat} {bad:Ev->Prop} {l:List Ev} {w:World} {cx:Option OpD} {co:OA} {vm:Nat} {evs:List Value} {node:Value} {ev:Ev}
theorem s_x (hbd:∀ e,bad e↔badDi c e)(hne:ae≠cnt/\ae≠mb/\ae≠mp/\cnt≠mb/\cnt≠mp/\mb≠mp)(hc:StDi bad ae cnt mb mp l w)(hw:Wst c cx co vm evs w)(hk:slot ev=5)(hn:f_i c cx w node ev):
  CP 115 #[.pointer (some (adr c.wb)),node,.pointer (some (adr ae)),.pointer (some (adr mb))] w fun e w'=>e=.returned (.tuple #[])/\Ext (DV ae cnt mb mp) w w'/\StDi bad ae cnt mb mp (l++[ev]) w':=by
 cases ev with
 | dir d loc=>
  obtain ⟨b,q,rfl,hp,hq,hQ,hloc⟩:=hn;obtain ⟨A1,L1,C1,pos,hM,hB,hA,pb,v0,v1,v4,n,m,rfl,hMp,hBp⟩:=hp;obtain ⟨c0,b0,m0⟩:=hc;obtain ⟨n1,n2,n3,n4,n5,n6⟩:=hne;have hB1:bad (.dir d loc)↔∀ f,lastN DirDef.name c.dirs d.name=some f->loc∉f.locs:=hbd _;have more:(∃ e∈l,bad e)->∃ e∈l++[.dir d loc],bad e:=fun h=>i_p.2 (.inl h);refine r_9 (some (adr c.wb)) (some (adr b)) (adr ae) (adr mb) w _ ⟨adr b,rfl,q,hq,fun h6=>fun w7 e7=>?_,fun h6=>fun w26 e26=>?_⟩
  ·have hnone:=hQ.isNone.1 h6;have hbad:bad (.dir d loc):=hB1.2 fun f hf=>by rw [hnone] at hf;cases hf
   have x7:EF w w7:=by rw [e7];exact (Ext.refl w).drew
   have k7:=hw.wk.trans (Wk.ofExt x7 fun _ _=>id);have c7:=Cnt.ext c0 x7 id id;have a7:=k7.at (a:=⟨b,2,none⟩) hM (hB.at (j:=2) rfl) rfl;refine ⟨_,(c7.1.at (j:=0) rfl).cell,adr b,rfl,d.name,k7.nd hM hB (j:=0) rfl rfl,adr b,rfl,_,a7.cell,trivial,?_⟩;exact tell c7 a7 n1 ((Ext.refl w7).alloc _) rfl fun w' x' c'=>⟨rfl,(x7.toM _).trans x' fun _ _ e=>e.elim .inl fun e=>.inr (.inl e),StB.told c' hbad,(b0.ext x7 id).ext x' fun e=>e.elim (fun e=>n4 e.symm) fun e=>n2 e.symm,((m0.ext x7 id).ext x' fun e=>e.elim (fun e=>n5 e.symm) fun e=>n3 e.symm).mono more⟩
  ·cases hfd:lastN DirDef.name c.dirs d.name with
   | none=>
    rw [hQ.isNone.2 hfd] at h6;cases h6
   | some f=>
    rw [hfd] at hQ;obtain ⟨fb,rfl,Aa,La,Ca,A2,L2,C2,pos2,hfM,hfB,-, hlocs⟩:=hQ;have x26:EF w w26:=by rw [e26];exact (Ext.refl w).drew
    have k26:=hw.wk.trans (Wk.ofExt x26 fun _ _=>id);refine ⟨adr b,rfl,some (adr fb),(x26.cell_eq id hq).trans hq,adr fb,rfl,A2,L2,C2,k26.nd hfM hfB (j:=4) rfl rfl,adr b,rfl,loc,(x26.cell_eq id hloc).trans hloc,?_⟩;refine (s_e k26 hlocs).mono ?_;rintro _ _ ⟨b35,rfl,rfl,hb35⟩;refine ⟨b35,rfl,trivial,trivial,fun h35=>?_,fun h35=>fun w36 e36=>?_⟩
    ·have hnb:¬ bad (.dir d loc):=fun h=>hB1.1 h f hfd (hb35.1 h35);exact ⟨rfl,x26.toM _,StB.good (Cnt.ext c0 x26 id id) hnb,b0.ext x26 id,(m0.ext x26 id).mono more⟩
    ·have hbad:bad (.dir d loc):=hB1.2 fun f' hf' hin=>by
      rw [hfd] at hf';cases hf';rw [hb35.2 hin] at h35;cases h35
     have x36:EF w w36:=by rw [e36];exact x26.drew
     have k36:=hw.wk.trans (Wk.ofExt x36 fun _ _=>id);have aB0:=k36.at (a:=⟨b,0,none⟩) hM (hB.at (j:=0) rfl) rfl;have aB2:=k36.at (a:=⟨b,2,none⟩) hM (hB.at (j:=2) rfl) rfl;have aP2:=k36.at (a:=⟨pb,2,none⟩) hMp (hBp.at (j:=2) rfl) rfl;have aP3:=k36.at (a:=⟨pb,3,none⟩) hMp (hBp.at (j:=3) rfl) rfl;refine ⟨adr b,rfl,d.name,aB0.cell,adr b,rfl,some (adr pb),aB2.cell,adr pb,rfl,n,aP2.cell,adr b,rfl,some (adr pb),aB2.cell,adr pb,rfl,m,aP3.cell,trivial,trivial,?_⟩;have x47:EF w36 (w36.alloc (.cells #[.string ⟨#[]⟩,.int .i64 0,.int .i64 0] 196)):=(Ext.refl w36).alloc _;refine ⟨⟨x47.ceq aP3,x47.ceq aB2,x47.ceq aP2,x47.ceq aB2,x47.ceq aB0,trivial⟩,trivial,trivial,?_⟩;have x48':=x47.setB (b:=w36.heap.size) (.inr (Nat.le_refl _)) [.string d.name,.int .i64 n,.int .i64 m] 196;generalize setB (w36.alloc (.cells #[.string ⟨#[]⟩,.int .i64 0,.int .i64 0] 196)) w36.heap.size [.string d.name,.int .i64 n,.int .i64 m] 196=w48 at x48' ⊢;have x48:=x36.then x48';have m48:=m0.ext x48 id;obtain ⟨z,hz,hzt,hzf⟩:=m48.look d.name n m;refine ⟨some mp,((b0.ext x48 id).at (j:=0) rfl).cell,z,hz,fun h50=>fun w51 e51=>?_,fun h50=>?_⟩
     ·have x51:EF w w51:=by rw [e51];exact x48.drew
      have z51:EF w48 w51:=by rw [e51];exact (Ext.refl w48).drew
      have k51:=hw.wk.trans (Wk.ofExt x51 fun _ _=>id);have c51:=Cnt.ext c0 x51 id id;have a51:=k51.at (a:=⟨b,2,none⟩) hM (hB.at (j:=2) rfl) rfl;refine ⟨_,(c51.1.at (j:=0) rfl).cell,adr b,rfl,d.name,k51.nd hM hB (j:=0) rfl rfl,adr b,rfl,loc,(x51.cell_eq id hloc).trans hloc,adr b,rfl,some (adr pb),a51.cell,trivial,?_⟩;refine tellK (by decide) (by decide) c51 a51 n1 ((Ext.refl w51).alloc _) rfl fun w' x' c'=>?_;have b71:=(b0.ext x51 id).ext x' fun e=>e.elim (fun e=>n4 e.symm) fun e=>n2 e.symm;obtain ⟨w73,r73,m73,x73⟩:=hzf (by simpa using h50) w' fun o ho=>x'.old mp o (fun e=>e.elim (fun e=>n5 e.symm) fun e=>n3 e.symm) (z51.old mp o id ho);have hkt:KeepT 196 w' w73:=fun k cs fr ho=>x73.old k _ (fun e=>by
       have e:k=mp:=e;subst e;obtain ⟨ents,cl,h1,-⟩:=m48;have h2:=x'.old k _ (fun e=>e.elim (fun e=>n5 e.symm) fun e=>n3 e.symm) (z51.old k _ id h1);rw [h2] at ho;cases ho) ho
      refine ⟨some mp,(b71.at (j:=0) rfl).cell,w73,r73,⟨hkt,trivial⟩,rfl,((x51.toM _).trans x' fun _ _ e=>e.elim .inl fun e=>.inr (.inl e)).trans x73 fun _ _ e=>.inr (.inr (.inr e)),StB.told (c'.ext x73 n3 n5) hbad,b71.ext x73 n6,m73.mono fun _=>i_p.2 (.inr hbad)⟩
     ·exact ⟨rfl,x48.toM _,Cnt.skip (Cnt.ext c0 x48 id id) (by simp) ⟨fun _=>i_p.2 (.inr hbad),fun _=>hzt (by simpa using h50)⟩,b0.ext x48 id,m48.mono more⟩
 | _=>cases hk
end
theorem s_v {w w3 w4 w5 w6:World}{f:Value}(h3:w3=w.alloc (.cells #[f] 161))(h4:w4=w3.alloc (.map #[] 0))(h5:w5=w4.alloc (.cells #[.map none] 168))(h6:w6=w5.setCell (adr w4.heap.size) (.map (some w3.heap.size))):
  Off w5 (adr w4.heap.size) 1 []/\EF w w6/\Blk w6 w.heap.size 161 [f]/\Blk w6 w4.heap.size 168 [.map (some w3.heap.size)]/\AMap w6 w3.heap.size False/\w.heap.size<w3.heap.size/\w3.heap.size<w4.heap.size/\w4.heap.size<w6.heap.size:=by
 subst h3;have B3:=Blk.made w 161 [f];have x3:EF w (w.alloc (.cells #[f] 161)):=(Ext.refl w).alloc _;replace B3:Blk (w.alloc (.cells #[f] 161)) w.heap.size 161 [f]:=B3;generalize w.alloc (.cells #[f] 161)=w3 at *;subst h4;have S4:=AMap.made w3 False;have x4:EF w3 (w3.alloc (.map #[] 0)):=(Ext.refl w3).alloc _;generalize w3.alloc (.map #[] 0)=w4 at *;subst h5;have B5:Blk (w4.alloc (.cells #[.map none] 168)) w4.heap.size 168 [.map none]:=Blk.made w4 168 [.map none];have x5:EF w4 (w4.alloc (.cells #[.map none] 168)):=(Ext.refl w4).alloc _;generalize w4.alloc (.cells #[.map none] 168)=w5 at *;subst h6;have B6:=B5.set 0 (.map (some w3.heap.size));have x6:EF w4 (w5.setCell (adr w4.heap.size) (.map (some w3.heap.size))):=Ext.setCell x5 (a:=⟨w4.heap.size,0,none⟩) (.inr (Nat.le_refl _)) _;have B6':Blk (w5.setCell (adr w4.heap.size) (.map (some w3.heap.size))) w4.heap.size 168 [.map (some w3.heap.size)]:=B6;exact ⟨B5.off (j:=0) (n:=1) (q:=inTs []) (by simp) rfl,(x3.then x4).then x6,(B3.ext x4 id).ext x6 id,B6',S4.ext x6 id,B3.lt,S4.lt,B6'.lt⟩
def s_t (dirs:List DirDef)(ops:List OpD)(frags:List Frag):Prop:=∃ u∈usesD ops frags,∃ d∈u.1,∀ f,dirS dirs d.name=some f->u.2∉f.locs
theorem s_p (dirs:List DirDef)(ops:List OpD)(frags:List Frag):s_t dirs ops frags↔(∃ u∈usesD ops frags,∃ d∈u.1,dirS dirs d.name=none)∨∃ u∈usesD ops frags,s_r dirs u:=by
 constructor
 ·rintro ⟨u,hu,d,hd,h⟩;cases hf:dirS dirs d.name with
  | none=>exact .inl ⟨u,hu,d,hd,hf⟩
  | some f=>exact .inr ⟨u,hu,d,hd,f,hf,h f hf⟩
 ·rintro (⟨u,hu,d,hd,h⟩|⟨u,hu,d,hd,f,hf,h⟩)
  ·exact ⟨u,hu,d,hd,fun f hf=>by rw [h] at hf;cases hf⟩
  ·exact ⟨u,hu,d,hd,fun f' hf'=>by
    rw [hf] at hf';cases hf';exact h⟩
theorem s_y (types:List Def)(dirs:List DirDef)(defs:List SchemaDef)(ops:List OpD)(frags:List Frag)(hO:OkSchema types dirs defs)(h12:ops.length<=12)(h12':frags.length<=12)(ok1:∀ x∈ops,okOp x)(ok2:∀ x∈frags,b_j x)(hs:docW ops frags<=2097152)(hS:SoundD types (a_F types defs) ops frags):
  RuleOK 65 (wideD types dirs (a_F types defs)) ops frags fun n=>0<=n/\(n>0↔s_t dirs ops frags):=by
 refine ⟨⟨_,Tryz.func65,by kernel_rfl⟩,?_⟩;intro c cnt hops hfrags hwd hb hB hcnt hne hMc hMe;subst hops;subst hfrags;obtain ⟨rf,hrf⟩:=l_q hS.ac;refine s_a (some (adr c.eb)) _ c.w0 _ ⟨⟨rfl,trivial⟩,?_⟩;intro w3 w4;refine ⟨trivial,?_⟩;intro w5;have key:=fun w6=>s_v (w:=c.w0) (w3:=w3) (w4:=w4) (w5:=w5) (w6:=w6) (f:=.func (.func 108) #[] #[.pointer (some (adr cnt))]) rfl rfl rfl;obtain ⟨off5,x6,Bae,Bmb,m6,z1,z2,z3⟩:=key _ rfl;refine ⟨off5,trivial,?_⟩;intro w6;have hlc:=hcnt.lt;have hle:=hB.lt;replace x6:EF c.w0 w6:=x6;replace Bae:Blk w6 c.w0.heap.size 161 [.func (.func 108) #[] #[.pointer (some (adr cnt))]]:=Bae;replace Bmb:Blk w6 w4.heap.size 168 [.map (some w3.heap.size)]:=Bmb;replace m6:AMap w6 w3.heap.size False:=m6;replace z1:c.w0.heap.size<w3.heap.size:=z1;replace z2:w3.heap.size<w4.heap.size:=z2;replace z3:w4.heap.size<w6.heap.size:=z3;clear key off5;clear_value w6;clear_value w5;clear_value w4;clear_value w3;obtain ⟨ae,hae⟩:∃ ae,ae=c.w0.heap.size:=⟨_,rfl⟩;obtain ⟨mb,hmb⟩:∃ mb,mb=w4.heap.size:=⟨_,rfl⟩;obtain ⟨mp,hmp⟩:∃ mp,mp=w3.heap.size:=⟨_,rfl⟩;rw [<- hae] at Bae;rw [<- hmb,<- hmp] at Bmb;rw [<- hmp] at m6;rw [<- hae,<- hmb];refine (p_S (f:=.func (.func 115) #[] #[.pointer (some (adr ae)),.pointer (some (adr mb))]) rfl (hB.ext x6 id) rfl).mono ?_;rintro _ w8 ⟨rfl,p,C,B8,ap,hpb,x8⟩;have y8:Ext (fun b=>b=c.eb) c.w0 w8:=(x6.toM _).trans x8 fun _ _ e=>e;have hz8:=x8.size;have nae:¬ ae=c.eb:=by omega
 have nmb:¬ mb=c.eb:=by omega
 have nmp:¬ mp=c.eb:=by omega
 have Bae':=Bae.ext x8 nae;have Bmb':=Bmb.ext x8 nmb;have m8:=m6.ext x8 nmp;have Bc':=hcnt.ext y8 hne;have hneq:ae≠cnt/\ae≠mb/\ae≠mp/\cnt≠mb/\cnt≠mp/\mb≠mp:=by omega
 have hVM:∀ b,DV ae cnt mb mp b->¬ c.M b:=fun b hV hM=>by
  have:=hb.m b hM;rcases hV with rfl|hV
  ·exact hMc hM
  ·omega
 refine ⟨rfl,trivial,rfl,y8,DV ae cnt mb mp,StDi (badDi c) ae cnt mb mp,obL [(5,p,C)],rf,?_,fun b hb'=>?_,fun b hb' T cs fr ho=>?_,fun l w'' hl ht=>?_⟩
 ·refine n_H hb hrf hMe y8 (fun b hb'=>?_) hlc hne hMc hle (fun l w w'' h hx=>h.ext hx fun b hb k=>k hb) ⟨Cnt.zero Bae' Bc' (by simp),Bmb',m8.mono False.elim⟩ B8 fun b5 wb fm fl j=>o_M (fun x hx=>?_) j
  ·rcases hb' with rfl|hb'
   ·exact .inl rfl
   ·exact .inr (by omega)
  simp only [mc_,nn_,or_false] at hx;subst hx;refine ⟨_,_,[.pointer (some (adr ae)),.pointer (some (adr mb))],_,ap,fun h=>?_,fun h=>?_,Tryz.func115,by kernel_rfl,fun l w1 cx co vm evs node ev hl hw hk hn=>s_x (fun e=>Iff.rfl) hneq hl hw hk hn⟩
  ·have:p.block<c.w0.heap.size:=hb.m _ h;omega
  ·have:DV ae cnt mb mp p.block:=h;rcases this with h|h|h|h<;>omega
 ·rcases hb' with rfl|hb'
  ·exact .inr (Nat.le_refl _)
  ·exact .inr (by omega)
 ·rcases hb' with rfl|rfl|rfl|rfl
  ·rw [Bc'.type ho];decide
  ·rw [Bae'.type ho];decide
  ·rw [Bmb'.type ho];decide
  ·obtain ⟨ents,cl,h1,-⟩:=m8;rw [h1] at ho;cases ho
 ·obtain ⟨⟨-, n,hn,hk⟩,-⟩:=hl;have hsm:=o_K (c:={ c with V:=DV ae cnt mb mp,St:=StDi (badDi c) ae cnt mb mp,w0:=w8,rf:=rf}) (ob:=obL [(5,p,C)]) h12 h12' hs;obtain ⟨k1,k2,k3⟩:=hk (lt_ (lt_ ht.few hsm) (by decide));refine ⟨n,hn,k1,k3.trans ((ht.bad fun e hbad=>?_).trans ?_)⟩
  ·cases e with
   | dir d loc=>rfl
   | _=>cases hbad
  ·have hd:∀ n,lastN DirDef.name c.dirs n=dirS dirs n:=fun n=>by
    rw [hwd.2.1];exact q_M hO n
   constructor
   ·rintro ⟨e,hdoc,hbad⟩;cases e with
    | dir d loc=>
     obtain ⟨u,hu,h|⟨d',hd',h⟩⟩:=(q_w (.inl rfl) ok1 ok2).1 hdoc
     ·cases h
     ·cases h;exact ⟨u,hu,d,hd',fun f hf=>hbad f (by rw [hd];exact hf)⟩
    | _=>cases hbad
   ·rintro ⟨u,hu,d,hd',h⟩;exact ⟨.dir d u.2,(q_w (.inl rfl) ok1 ok2).2 ⟨u,hu,.inr ⟨d,hd',rfl⟩⟩,fun f hf=>h f (by rw [<- hd];exact hf)⟩
theorem s_b {P:Int->Prop}{wd:WorldD}{a1:OA}{l1 c1:Nat}{a2:OA}{l2 c2:Nat}{a6:OA}{l6 c6:Nat}{a7:OA}{l7 c7:Nat}{q8:OA}{q8l q8c:Nat}{q9:OA}{q9l q9c:Nat}{ops:List OpD}{frags:List Frag}{w:World}
  (hw:c_6 w wd [.slice a1 l1 c1,.slice a2 l2 c2,.string wd.query,.string wd.mutation,.string wd.subscription,.slice a6 l6 c6,.slice a7 l7 c7]) (ok3:∀ x∈wd.dirs,∀ y∈x.args,a_s y) (ok4:∀ x∈wd.types,okDef x)
  (few6:(pushD wd.types wd.possible).length<=4194304) (few7:(pushD wd.types wd.implements).length<=4194304) (hl1:ROps w q8 q8l q8c ops) (hl2:a_X w q9 q9l q9c frags) (ok1:∀ x∈ops,okOp x) (ok2:∀ x∈frags,b_j x) (hr:RuleOK 65 wd ops frags P) (hB0:DB.B<=w.heap.size):
  CP 21 #[.agg #[.slice a1 l1 c1,.slice a2 l2 c2,.string wd.query,.string wd.mutation,.string wd.subscription,.slice a6 l6 c6,.slice a7 l7 c7],.agg #[.slice q8 q8l q8c,.slice q9 q9l q9c]] w fun e w'=>
   ∃ n,e=.returned (.tuple #[.int .i64 n,.bool true])/\P n/\EF w w':=by
 have x11:EF w (w.alloc (.cells #[.slice a1 l1 c1,.slice a2 l2 c2,.string wd.query,.string wd.mutation,.string wd.subscription,.slice a6 l6 c6,.slice a7 l7 c7] 40)):=(Ext.refl w).alloc _;have x12:=x11.alloc (.cells #[.slice q8 q8l q8c,.slice q9 q9l q9c] 30);refine s_c a1 l1 c1 a2 l2 c2 wd.query wd.mutation wd.subscription a6 l6 c6 a7 l7 c7 q8 q8l q8c q9 q9l q9c w _ ⟨trivial,trivial,?_⟩;refine (j_d (c_6.keep x12.keep hw) ok3 ok4 few6 few7 (hl1.keep x12.keep) (hl2.keep x12.keep) ok1 ok2 hr (lt_ hB0 x12.size)).mono ?_;rintro _ w' ⟨n,rfl,hp,hx⟩;exact ⟨n,true,rfl,⟨hx.keepT _,hx.keepT _,trivial⟩,n,rfl,hp,x12.then hx⟩
theorem s_o
  {d1:OA} {d1l d1c:Nat} {d2:OA} {d2l d2c:Nat} {d3:OA} {d3l d3c:Nat} {d4:OA} {d4l d4c:Nat} {d5:OA} {d5l d5c:Nat} {q6:OA} {q6l q6c:Nat} {q7:OA} {q7l q7c:Nat} {defs exts:List SchemaDef} {dirs:List DirDef} {types texts:List Def} {ops:List OpD} {frags:List Frag} {w:World}
  (h1:a_p w d1 d1l d1c defs) (h2:a_p w d2 d2l d2c exts) (h3:a_Y w d3 d3l d3c dirs) (h4:RDefs w d4 d4l d4c types) (h5:RDefs w d5 d5l d5c texts) (hs:d1l+d2l<=4194304) (hsp:docW ops frags<=2097152) (h6:ROps w q6 q6l q6c ops) (h7:a_X w q7 q7l q7c frags) (hB0:DB.B<=w.heap.size):
  CP 4 #[.agg #[.slice d1 d1l d1c,.slice d2 d2l d2c,.slice d3 d3l d3c,.slice d4 d4l d4c,.slice d5 d5l d5c],.agg #[.slice q6 q6l q6c,.slice q7 q7l q7c]] w fun e w'=>e=.returned (.bool true)/\EF w w':=by
 have x8:EF w (w.alloc (.cells #[.slice d1 d1l d1c,.slice d2 d2l d2c,.slice d3 d3l d3c,.slice d4 d4l d4c,.slice d5 d5l d5c] 26)):=(Ext.refl w).alloc _;have x9:=x8.alloc (.cells #[.slice q6 q6l q6c,.slice q7 q7l q7c] 30);refine s_g d1 d1l d1c d2 d2l d2c d3 d3l d3c d4 d4l d4c d5 d5l d5c q6 q6l q6c q7 q7l q7c w _ ⟨trivial,trivial,fun K10 hK10=>?_⟩;have key10:∀ b w',EF w w'->K10 b w':=by
  intro b w' xw;refine hK10 b w' ⟨fun _=>⟨rfl,xw⟩,fun _=>?_⟩;refine (n_5 (h1.keep xw.keep) (h2.keep xw.keep) (h3.keep xw.keep) (h4.keep xw.keep) (h5.keep xw.keep) hs (lt_ hB0 xw.size)).mono ?_;rintro _ w14 ⟨q15,b16,rfl,x14,hok⟩;refine ⟨q15,b16,rfl,⟨x14.keepT _,x14.keepT _,trivial⟩,fun K17 hK17=>?_⟩;have y14:=xw.then x14;have key17:∀ b w',EF w14 w'->(b=false->b16=true/\ops.length<=12/\frags.length<=12/\(∀ x∈ops,okOp x)/\(∀ x∈frags,b_j x)/\SoundD types (a_F types defs) ops frags)->K17 b w':=by
   intro b w19 x19 hb;have y19:=y14.then x19;refine hK17 b w19 ⟨fun _=>⟨rfl,y19⟩,fun hbf=>?_⟩;obtain ⟨hb16,n1,n2,ok1,ok2,hS⟩:=hb hbf;obtain ⟨k,rfl,A,L,C,hB,hR,hO⟩:=hok hb16;intro w20 e20;have x20:EF w19 w20:=by rw [e20];exact (Ext.refl w19).drew
   have y20:=y19.then x20;have z20:=x19.then x20;refine (i_8 (hB.ext z20 id) (h4.keep y20.keep) (hR.keep z20.keep) (h3.keep y20.keep) hO.few.1 (fun t ht=>by have:=hO.small t ht;omega) hO.few.2 (lt_ hB0 y20.size)).mono ?_;rintro _ w22 ⟨cs,rfl,hW,x22⟩;obtain ⟨ok3,ok4,few6,few7⟩:=k_I hO;have hW':=hW;obtain ⟨a1,l1,c1,a2,l2,c2,a6,l6,c6,a7,l7,c7,rfl,-⟩:=hW';have y22:=y20.then x22;refine ⟨a1,l1,c1,a2,l2,c2,_,_,_,a6,l6,c6,a7,l7,c7,rfl,⟨x22.keepT _,x22.keepT _,trivial⟩,⟨rfl,trivial⟩,?_⟩;refine (s_b hW ok3 ok4 few6 few7 (h6.keep y22.keep) (h7.keep y22.keep) ok1 ok2 (s_y types dirs defs ops frags hO n1 n2 ok1 ok2 hsp hS) (lt_ hB0 y22.size)).mono ?_;rintro _ w31 ⟨n,rfl,⟨hn0,hn⟩,x31⟩;have y31:=y22.then x31;refine ⟨n,true,rfl,⟨x31.keepT _,x31.keepT _,trivial⟩,trivial,trivial,trivial,fun K34 hK34=>?_⟩;have z31:=(z20.then x22).then x31;rw [s_p] at hn;have fin:∀ (b:Bool) (w':World),EF w31 w'->(b=true↔(∃ u∈usesD ops frags,∃ d∈u.1,dirS dirs d.name=none)∨∃ u∈usesD ops frags,s_r dirs u)->K34 (toldB n true b) w':=fun b w' x' h=>hK34 _ _ ⟨by rw [n_f hn0 (hn.trans h.symm)],y31.then x'⟩;refine (s_l (lt_ hB0 y31.size) (hB.ext z31 id) (h3.keep y31.keep) hO.few.2 (h6.keep y31.keep) (h7.keep y31.keep) ok1 ok2 hsp).mono ?_;rintro _ w38 ⟨b39,rfl,x38,hb39⟩;have y38:=y31.then x38;have z38:=z31.then x38;refine ⟨b39,rfl,⟨x38.keepT _,x38.keepT _,trivial⟩,fun h39=>?_,fun h39=>?_⟩
   ·refine (s_d (lt_ hB0 y38.size) (hB.ext z38 id) (h3.keep y38.keep) hO.few.2 (h6.keep y38.keep) (h7.keep y38.keep) ok1 ok2 hsp).mono ?_;rintro _ w41 ⟨b42,rfl,x41,hb42⟩;refine ⟨b42,rfl,⟨x41.keepT _,x41.keepT _,trivial⟩,?_⟩;refine (j_9 n true b42 w41).mono ?_;rintro _ w44 ⟨rfl,rfl⟩;exact ⟨_,rfl,⟨(Ext.refl _).keepT _,(Ext.refl _).keepT _,trivial⟩,fin b42 _ (x38.then x41) ⟨fun h=>.inr (hb42.1 h),fun h=>hb42.2 (h.resolve_left fun k=>by rw [hb39.2 k] at h39;cases h39)⟩⟩
   ·refine (j_9 n true true w38).mono ?_;rintro _ w47 ⟨rfl,rfl⟩;exact ⟨_,rfl,⟨(Ext.refl _).keepT _,(Ext.refl _).keepT _,trivial⟩,fin true _ x38 ⟨fun _=>.inl (hb39.1 h39),fun _=>rfl⟩⟩
  refine ⟨fun hb=>?_,fun hb=>key17 true w14 (Ext.refl w14) nofun⟩;refine (n_7 (h6.keep y14.keep) (h7.keep y14.keep)).mono ?_;rintro _ w41 ⟨b42,rfl,x41,hsm⟩;have y41:=y14.then x41;refine ⟨b42,rfl,⟨x41.keepT _,x41.keepT _,trivial⟩,fun h42=>?_,fun _=>key17 true w41 x41 nofun⟩;obtain ⟨n1,n2,ok1,ok2⟩:=hsm (by simpa using h42);obtain ⟨k,rfl,A,L,C,hB,hR,hO⟩:=hok (by simpa using hb);refine (i_c (hB.ext x41 id) (h4.keep y41.keep) (hR.keep x41.keep) (h6.keep y41.keep) (h7.keep y41.keep) ok1 ok2 n2 hsp).mono ?_;rintro _ w53 ⟨b54,rfl,x53,hS⟩;have z53:=x41.then x53;have y53:=y41.then x53;exact ⟨b54,rfl,⟨x53.keepT _,x53.keepT _,trivial⟩,key17 _ w53 z53 fun h=>⟨by simpa using hb,n1,n2,ok1,ok2,hS (by simpa using h)⟩⟩
 refine (f_4 d1 d1l d1c d2 d2l d2c d3 d3l d3c d4 d4l d4c d5 d5l d5c _).mono ?_;rintro _ w44 ⟨b45,rfl,x44,-⟩;have y44:=x9.then x44;refine ⟨b45,rfl,⟨x44.keepT _,x44.keepT _,trivial⟩,fun _=>?_,fun _=>key10 true w44 y44⟩;refine (f_5 q6 q6l q6c q7 q7l q7c _).mono ?_;rintro _ w47 ⟨b48,rfl,x47,-⟩;exact ⟨b48,rfl,⟨x47.keepT _,x47.keepT _,trivial⟩,key10 _ w47 (y44.then x47)⟩
end Go.VC
