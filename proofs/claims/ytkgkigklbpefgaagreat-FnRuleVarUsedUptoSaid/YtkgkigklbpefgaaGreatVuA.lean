/- Part of the proof of a law of a rule over documents (VuA), where what the arguments hold is of bulk at most 1048576. -/
import Derived.Test.YtkgkigklbpefgaaGreatBaseB
import Derived.Test.YtkgkigklbpefgaaGreatWalkD
import Derived.Test.YtkgkigklbpefgaaGreatSpecD
import Derived.ArgAppend
import Derived.Test.YtkgkigklbpefgaaGreatSpecE
import Derived.Test.YtkgkigklbpefgaaGreatWalkC
import Derived.Test.YtkgkigklbpefgaaGreatLawA
set_option linter.unusedVariables false
set_option linter.unusedSimpArgs false
set_option linter.unusedSectionVars false
namespace Go.VC
open Go Go.Proofs
set_option maxRecDepth 100000
theorem u_k (a:OA)(b:OA)(c d:Nat)(e:OA)(f g:Nat)(w:World)(R:EW)(h:
 True/\(let i:=w.alloc (.cells #[.slice b c d,.slice e f g] 30);
 ∃ (j:Int->World->Prop) (k:Int->World->Nat),j 0 i/\
 (∀ l:Int,∀ m:World,j l m->
 (Br (decide (l<(c:Int))) (Ix b l c fun n=>L_sslll m (n.add (l.toNat*5)) fun o p q r s t u v x y z=>True/\True/\(let B:=m.alloc (.cells #[.string o,.string p,.slice q r s,.slice t u v,.slice x y z] 51);
 Cl 77 #[.pointer a,(.agg #[.slice b c d,.slice e f g]),(.agg #[.string o,.string p,.slice q r s,.slice t u v,.slice x y z])] B (fun C D E F=>(KeepT 30 B F/\KeepT 51 B F/\True)/\Cl 76 #[(.agg #[.string o,.string p,.slice q r s,.slice t u v,.slice x y z])] F (fun G H I J=>(KeepT 30 F J/\KeepT 51 F J/\True)/\∃ (K:Int->World->Prop) (L:Int->World->Nat),K 0 J/\
 (∀ M:Int,∀ N:World,K M N->
 (Br (decide (M<(H:Int))) (Ix G M H fun O=>Ls N (O.add (M.toNat*1)) fun P=>Cb 68 #[.string P,.slice C D E] N (fun Q S=>(KeepT 30 N S/\KeepT 51 N S/\True)/\(Br (!Q) (R (.returned (.bool true)) S) ((K (wr (M+1)) S/\L (wr (M+1)) S<L M N))))) ((j (wr (l+1)) N/\k (wr (l+1)) N<k l m)))))))) (R (.returned (.bool false)) m))))):CP 31 #[.pointer a,(.agg #[.slice b c d,.slice e f g])] w R:=
 vcq Tryz.func31 [3,6] [(6,⟨[(13,.int .i64)],[]⟩),(22,⟨[(24,.int .i64)],[]⟩)] [.l (.optr a),.agg [.slice b c d,.slice e f g]] h
theorem u_p (a:OA)(b c:Nat)(d:OA)(e f:Nat)(w:World)(R:EW)(h:
 True/\(let g:=w.alloc (.cells #[.slice a b c,.slice d e f] 30);
 ∃ (i:Int->World->Prop) (j:Int->World->Nat),i 0 g/\
 (∀ k:Int,∀ l:World,i k l->
 (Br (decide (k<(b:Int))) (Ix a k b fun m=>L_sslll l (m.add (k.toNat*5)) fun n o p q r s t u v x y=>True/\True/\(let A:=l.alloc (.cells #[.string n,.string o,.slice p q r,.slice s t u,.slice v x y] 51);
 ∃ (B:OA->Nat->Nat->Int->World->Prop) (C:OA->Nat->Nat->Int->World->Nat),B none 0 0 0 A/\
 (∀ (D:OA) (E F:Nat),∀ G:Int,∀ H:World,B D E F G H->
 (Br (decide (G<(q:Int))) (Ix p G q fun I=>Ls H (I.add (G.toNat*6)) fun J=>Ls H ((I.add (G.toNat*6)).add 1) fun K=>Ll H ((I.add (G.toNat*6)).add 2) fun L M N=>Lb H ((I.add (G.toNat*6)).add 3) fun O=>Ll H ((I.add (G.toNat*6)).add 4) fun P Q S=>Ll H ((I.add (G.toNat*6)).add 5) fun U V W=>True/\True/\(let Y:=H.alloc (.cells #[.string J,.string K,.slice L M N,.bool O,.slice P Q S,.slice U V W] 59);
 True/\(let Z:=Y.alloc (.cells #[.string J] 9);
 Ap 81 (.slice D E F) (.slice (some (adr Y.heap.size)) 1 1) Z fun aa ab ac ad=>(KeepT 30 Z ad/\KeepT 51 Z ad/\KeepT 59 Z ad/\True)/\(B aa ab ac (wr (G+1)) ad/\C aa ab ac (wr (G+1)) ad<C D E F G H)))) (Cb 78 #[.slice D E F] H (fun ae af=>(KeepT 30 H af/\KeepT 51 H af/\True)/\(Br ae (R (.returned (.bool true)) af) ((i (wr (k+1)) af/\j (wr (k+1)) af<j k l))))))))) (R (.returned (.bool false)) l))))):CP 29 #[(.agg #[.slice a b c,.slice d e f])] w R:=
 vcq Tryz.func29 [1,4,7] [(6,⟨[(11,.int .i64)],[]⟩),(23,⟨[(5,.slice),(18,.int .i64)],[]⟩)] [.agg [.slice a b c,.slice d e f]] h
theorem u_c (a:OA)(b:Value)(w:World)(R:EW)(h:
 (b.oneCell'=true/\True)/\(let c:=w.alloc (.cells #[b] 161);
 C0 134 #[.pointer a,(.func (.func 135) #[] #[(.pointer (some (adr w.heap.size)))])] c (fun d=>True/\R (.returned (.tuple #[])) d))):CP 79 #[.pointer a,b] w R:=
 vcq Tryz.func79 [] [] [.l (.optr a),.l (.val b)] h
theorem u_b (a:OA)(b:OA)(c:Addr)(w:World)(R:EW)(h:
 Pt b fun d=>Ll w (d.add 3) fun e f g=>∃ (i:Int->World->Prop) (j:Int->World->Nat),i 0 w/\
 (∀ k:Int,∀ l:World,i k l->
 (Br (decide (k<(f:Int))) (∀ m:World->Prop,(∀ n:World,
 ((i (wr (k+1)) n/\j (wr (k+1)) n<j k l))->
 m n)->
 Ix e k f fun o=>Lp l (o.add (k.toNat*1)) fun p=>Pt p fun q=>Lb l (q.add 8) fun r=>(Br r (m l) (Pt b fun s=>Ls l (s.add 2) fun t=>(Br (!(t.toList==(⟨#[]⟩:BA).toList)) (∀ u,u=l.drew->Lv u c fun v=>Pt p fun x=>Ls u (x.add 1) fun y=>Pt b fun z=>Ls u (z.add 2) fun A=>Pt p fun B=>Lp u (B.add 5) fun C=>True/\(let D:=u.alloc (.cells #[(ifcV (some (9,(.string y)))),(ifcV (some (9,(.string A))))] 20);
 ((D.cell? (B.add 5)=u.cell? (B.add 5))/\(D.cell? c=u.cell? c)/\True)/\CP 116 #[(.string (⟨#[86,97,114,105,97,98,108,101,32,34,36,37,115,34,32,105,115,32,110,101,118,101,114,32,117,115,101,100,32,105,110,32,111,112,101,114,97,116,105,111,110,32,34,37,115,34,46]⟩:BA)),(.slice (some (adr u.heap.size)) 2 2)] D (fun E F=>∃ G:Value,E=.returned G/\True/\((F.cell? (B.add 5)=D.cell? (B.add 5))/\(F.cell? c=D.cell? c)/\True)/\CP 117 #[.pointer C] F (fun H I=>∃ J:Value,H=.returned J/\True/\((I.cell? c=F.cell? c)/\True)/\(G.oneCell'=true/\J.oneCell'=true/\True)/\(let K:=I.alloc (.cells #[G,J] 181);
 ((K.cell? c=I.cell? c)/\True)/\∃ L M,v=.func (.func L) #[] M.toArray/\∃ N,Tryz.prog.funcs[L]? =some N/\(N.name== "runtime.NumGoroutine" ||N.body.isNone)=false/\CP L ([(.slice (some (adr I.heap.size)) 2 2)]++M).toArray K (fun O P=>O=.returned (.tuple #[])/\True/\True/\m P)))))) (∀ Q,Q=l.drew->Lv Q c fun S=>Pt p fun U=>Ls Q (U.add 1) fun V=>Pt p fun W=>Lp Q (W.add 5) fun X=>True/\(let Y:=Q.alloc (.cells #[(ifcV (some (9,(.string V))))] 20);
 ((Y.cell? (W.add 5)=Q.cell? (W.add 5))/\(Y.cell? c=Q.cell? c)/\True)/\CP 116 #[(.string (⟨#[86,97,114,105,97,98,108,101,32,34,36,37,115,34,32,105,115,32,110,101,118,101,114,32,117,115,101,100,46]⟩:BA)),(.slice (some (adr Q.heap.size)) 1 1)] Y (fun Z aa=>∃ ab:Value,Z=.returned ab/\True/\((aa.cell? (W.add 5)=Y.cell? (W.add 5))/\(aa.cell? c=Y.cell? c)/\True)/\CP 117 #[.pointer X] aa (fun ac ad=>∃ ae:Value,ac=.returned ae/\True/\((ad.cell? c=aa.cell? c)/\True)/\(ab.oneCell'=true/\ae.oneCell'=true/\True)/\(let af:=ad.alloc (.cells #[ab,ae] 181);
 ((af.cell? c=ad.cell? c)/\True)/\∃ ag ah,S=.func (.func ag) #[] ah.toArray/\∃ ai,Tryz.prog.funcs[ag]? =some ai/\(ai.name== "runtime.NumGoroutine" ||ai.body.isNone)=false/\CP ag ([(.slice (some (adr ad.heap.size)) 2 2)]++ah).toArray af (fun aj ak=>aj=.returned (.tuple #[])/\True/\True/\m ak)))))))))) (R (.returned (.tuple #[])) l)))):CP 135 #[.pointer a,.pointer b,(.pointer (some c))] w R:=
 vcq Tryz.func135 [] [(3,⟨[(12,.int .i64)],[]⟩),(10,⟨[],[]⟩)] [.l (.optr a),.l (.optr b),.l (.ptr c)] h
theorem u_g (a:OA)(b c:Nat)(d:OA)(e f:Nat)(g:BA)(i:BA)(j:BA)(k:OA)(l m:Nat)(n:OA)(o p:Nat)(q:OA)(r s:Nat)(t:OA)(u v:Nat)(w:World)(R:EW)(h:
 True/\(let x:=w.alloc (.cells #[.slice a b c,.slice d e f,.string g,.string i,.string j,.slice k l m,.slice n o p] 40);
 True/\(let y:=x.alloc (.cells #[.slice q r s,.slice t u v] 30);
 CP 56 #[(.agg #[.slice a b c,.slice d e f,.string g,.string i,.string j,.slice k l m,.slice n o p]),(.agg #[.slice q r s,.slice t u v]),(.func (.func 79) #[] #[])] y (fun z A=>∃ B,∃ C,z=.returned (.tuple #[.int .i64 B,.bool C])/\(KeepT 40 y A/\KeepT 30 y A/\True)/\R (.returned (.tuple #[.int .i64 B,.bool C])) A)))):CP 30 #[(.agg #[.slice a b c,.slice d e f,.string g,.string i,.string j,.slice k l m,.slice n o p]),(.agg #[.slice q r s,.slice t u v])] w R:=
 vcq Tryz.func30 [2,3] [] [.agg [.slice a b c,.slice d e f,.str g,.str i,.str j,.slice k l m,.slice n o p],.agg [.slice q r s,.slice t u v]] h
theorem u_h (a:OA)(b c:Nat)(d:OA)(e f:Nat)(g:OA)(i j:Nat)(k:OA)(l m:Nat)(n:OA)(o p:Nat)(q:OA)(r s:Nat)(t:OA)(u v:Nat)(w:World)(R:EW)(h:
 True/\(let x:=w.alloc (.cells #[.slice a b c,.slice d e f,.slice g i j,.slice k l m,.slice n o p] 26);
 True/\(let y:=x.alloc (.cells #[.slice q r s,.slice t u v] 30);
 ∀ z:Bool->World->Prop,(∀ A:Bool,∀ B:World,
 ((Br A (R (.returned (.bool true)) B) (CP 13 #[(.agg #[.slice a b c,.slice d e f,.slice g i j,.slice k l m,.slice n o p])] B (fun C D=>∃ E,∃ F,C=.returned (.tuple #[.pointer E,.bool F])/\(KeepT 26 B D/\KeepT 30 B D/\True)/\∀ G:Bool->World->Prop,(∀ H:Bool,∀ I:World,
 ((Br H (R (.returned (.bool true)) I) (∀ J,J=I.drew->CP 18 #[.pointer E] J (fun K L=>∃ M N O,∃ P Q S,∃ U,∃ V,∃ W,∃ X Y Z,∃ aa ab ac,K=.returned (.agg #[.slice M N O,.slice P Q S,.string U,.string V,.string W,.slice X Y Z,.slice aa ab ac])/\(KeepT 26 J L/\KeepT 30 J L/\True)/\((0=0)/\True)/\CP 30 #[(.agg #[.slice M N O,.slice P Q S,.string U,.string V,.string W,.slice X Y Z,.slice aa ab ac]),(.agg #[.slice q r s,.slice t u v])] L (fun ad ae=>∃ af,∃ ag,ad=.returned (.tuple #[.int .i64 af,.bool ag])/\(KeepT 26 L ae/\KeepT 30 L ae/\True)/\True/\True/\True/\Cb 31 #[.pointer E,(.agg #[.slice q r s,.slice t u v])] ae (fun ah ai=>(KeepT 26 ae ai/\KeepT 30 ae ai/\True)/\Cb 19 #[.int .i64 af,.bool ag,.bool ah] ai (fun aj ak=>(KeepT 26 ai ak/\KeepT 30 ai ak/\True)/\R (.returned (.bool aj)) ak)))))))->
 G H I)->
 (Nr (!F) (Cb 14 #[(.agg #[.slice q r s,.slice t u v])] D (fun al am=>(KeepT 26 D am/\KeepT 30 D am/\True)/\(Nr (!al) (Cb 15 #[.pointer E,(.agg #[.slice q r s,.slice t u v])] am (fun an ao=>(KeepT 26 am ao/\KeepT 30 am ao/\True)/\(Nr (!an) (Cb 29 #[(.agg #[.slice q r s,.slice t u v])] ao (fun ap aq=>(KeepT 26 ao aq/\KeepT 30 ao aq/\True)/\G ap aq)) (G true ao)))) (G true am)))) (G true D))))))->
 z A B)->
 Cb 11 #[(.agg #[.slice a b c,.slice d e f,.slice g i j,.slice k l m,.slice n o p])] y (fun ar au=>(KeepT 26 y au/\KeepT 30 y au/\True)/\(Nr (!ar) (Cb 12 #[(.agg #[.slice q r s,.slice t u v])] au (fun av ax=>(KeepT 26 au ax/\KeepT 30 au ax/\True)/\z (!av) ax)) (z true au)))))):CP 7 #[(.agg #[.slice a b c,.slice d e f,.slice g i j,.slice k l m,.slice n o p]),(.agg #[.slice q r s,.slice t u v])] w R:=
 vcq Tryz.func7 [2,3] [(3,⟨[(16,.bool)],[]⟩),(13,⟨[(38,.bool)],[]⟩)] [.agg [.slice a b c,.slice d e f,.slice g i j,.slice k l m,.slice n o p],.agg [.slice q r s,.slice t u v]] h
set_option maxRecDepth 100000
theorem u_f (a:OA)(b:Value)(w:World)(R:EW)(h:
 Pt a fun c=>Ll w c fun d e f=>(b.oneCell'=true/\True)/\(let g:=w.alloc (.cells #[b] 255);
 Ap 147 (.slice d e f) (.slice (some (adr w.heap.size)) 1 1) g fun i j k l=>True/\Pt a fun m=>Off l m 1 []/\True/\(let n:=(l.setCell m (.slice i j k));
 R (.returned (.tuple #[])) n))):CP 134 #[.pointer a,b] w R:=
 vcq Tryz.func134 [] [] [.l (.optr a),.l (.val b)] h
variable [DB]
theorem u_d {eb:Nat}{f:Value}{evs:List Value}{w:World}(hf:a_v f)(hB:Blk w eb 157 evs)(hj:evs[0]? =some (.slice none 0 0)):
  CP 134 #[.pointer (some (adr eb)),f] w fun e w'=>e=.returned (.tuple #[])/\∃ (p:Addr) (C:Nat),Blk w' eb 157 (evs.set 0 (.slice (some p) 1 C))/\At w' 255 p f/\w.heap.size<=p.block/\Ext (fun b=>b=eb) w w':=by
 obtain ⟨p,C,w7,r7,ha,hp,hx,-⟩:=m_z 147 255 Tryz.t255 _ _ (by kernel_rfl) (by kernel_rfl) rfl (by kernel_rfl) rfl (by kernel_rfl) (by decide) (w:=w) hf 147 #[false,false];have hB7:=hB.ext hx id;have hlt:=hB.lt;have hl:0+1<=evs.length:=(List.getElem?_eq_some_iff.1 hj).1;have hs:Ext (fun b=>b=eb) w7 (w7.setCell ⟨eb,0,none⟩ (.slice (some p) 1 C)):=Ext.setCell (X:=fun b=>b=eb) (Ext.refl _) (a:=⟨eb,0,none⟩) (.inl rfl) _;refine u_f (some (adr eb)) f w _ ⟨adr eb,rfl,none,0,0,(hB.at (j:=0) hj).cell,⟨hf.one,trivial⟩,some p,1,C,w7,r7,trivial,adr eb,rfl,hB7.off (j:=0) (n:=1) (q:=fun _=>false) hl rfl,trivial,rfl,p,C,hB7.set 0 _,hs.at (by show ¬ p.block=eb;omega) ha,hp,(hx.toM _).trans hs fun _ _ e=>e⟩
end Go.VC
namespace Go.VC
open Go Go.Proofs
set_option maxRecDepth 100000
set_option maxRecDepth 100000
variable [DB]
end Go.VC
namespace Go.VC
open Go Go.Proofs
set_option maxRecDepth 100000
theorem r_y (a:Int)(b:BA)(c:OA)(d e:Nat)(w:World)(R:EW)(h:
 True/\(let f:=w.alloc (.cells #[.int .i64 a,.string b,.slice c d e] 94);
 (Br (a==0) (True/\(let g:=f.alloc (.cells #[.string b] 9);
 R (.returned (.slice (some (adr f.heap.size)) 1 1)) g)) (∃ (i:OA->Nat->Nat->Int->World->Prop) (j:OA->Nat->Nat->Int->World->Nat),i none 0 0 0 f/\
 (∀ (k:OA) (l m:Nat),∀ n:Int,∀ o:World,i k l m n o->
 (Br (decide (n<(d:Int))) (Ix c n d fun p=>L_sisl o (p.add (n.toNat*4)) fun q r s t u v=>True/\True/\(let y:=o.alloc (.cells #[.string q,.int .i64 r,.string s,.slice t u v] 340);
 Cl 133 #[(.agg #[.int .i64 r,.string s,.slice t u v])] y (fun z A B C=>(KeepT 94 y C/\KeepT 340 y C/\True)/\Ap 81 (.slice k l m) (.slice z A B) C fun D E F G=>(KeepT 94 C G/\KeepT 340 C G/\True)/\(i D E F (wr (n+1)) G/\j D E F (wr (n+1)) G<j k l m n o)))) (R (.returned (.slice k l m)) o))))))):CP 133 #[(.agg #[.int .i64 a,.string b,.slice c d e])] w R:=
 vcq Tryz.func133 [1,5] [(16,⟨[(3,.slice),(15,.int .i64)],[]⟩)] [.agg [.int .i64 a,.str b,.slice c d e]] h
theorem r_M (a:BA)(b:BA)(c:OA)(d e:Nat)(f:OA)(g i:Nat)(j:OA)(k l:Nat)(w:World)(R:EW)(h:
 True/\(let m:=w.alloc (.cells #[.string a,.string b,.slice c d e,.slice f g i,.slice j k l] 51);
 ∃ (n:OA->Nat->Nat->Int->World->Prop) (o:OA->Nat->Nat->Int->World->Nat),n none 0 0 0 m/\
 (∀ (p:OA) (q r:Nat),∀ s:Int,∀ t:World,n p q r s t->
 (Br (decide (s<(d:Int))) (Ix c s d fun u=>Ls t (u.add (s.toNat*6)) fun v=>Ls t ((u.add (s.toNat*6)).add 1) fun x=>Ll t ((u.add (s.toNat*6)).add 2) fun y z A=>Lb t ((u.add (s.toNat*6)).add 3) fun B=>Ll t ((u.add (s.toNat*6)).add 4) fun C D E=>Ll t ((u.add (s.toNat*6)).add 5) fun F G H=>True/\True/\(let J:=t.alloc (.cells #[.string v,.string x,.slice y z A,.bool B,.slice C D E,.slice F G H] 59);
 True/\(let K:=J.alloc (.cells #[.string v] 9);
 Ap 81 (.slice p q r) (.slice (some (adr J.heap.size)) 1 1) K fun L M N O=>(KeepT 51 K O/\KeepT 59 K O/\True)/\(n L M N (wr (s+1)) O/\o L M N (wr (s+1)) O<o p q r s t)))) (R (.returned (.slice p q r)) t))))):CP 76 #[(.agg #[.string a,.string b,.slice c d e,.slice f g i,.slice j k l])] w R:=
 vcq Tryz.func76 [1,5] [(8,⟨[(3,.slice),(9,.int .i64)],[]⟩)] [.agg [.str a,.str b,.slice c d e,.slice f g i,.slice j k l]] h
theorem r_v (a:OA)(b:OA)(c d:Nat)(e:OA)(f g:Nat)(i:BA)(j:BA)(k:OA)(l m:Nat)(n:OA)(o p:Nat)(q:OA)(r s:Nat)(w:World)(R:EW)(h:
 True/\(let t:=w.alloc (.cells #[.slice b c d,.slice e f g] 30);
 True/\(let u:=t.alloc (.cells #[.string i,.string j,.slice k l m,.slice n o p,.slice q r s] 51);
 Cl 132 #[.pointer a,(.agg #[.slice b c d,.slice e f g]),(.agg #[.string i,.string j,.slice k l m,.slice n o p,.slice q r s])] u (fun v x y z=>(KeepT 30 u z/\KeepT 51 u z/\True)/\∃ (A:OA->Nat->Nat->Int->World->Prop) (B:OA->Nat->Nat->Int->World->Nat),A none 0 0 0 z/\
 (∀ (C:OA) (D E:Nat),∀ F:Int,∀ G:World,A C D E F G->
 (Br (decide (F<(x:Int))) (Ix v F x fun H=>Li G (H.add (F.toNat*7)) fun I=>Ls G ((H.add (F.toNat*7)).add 1) fun J=>Ll G ((H.add (F.toNat*7)).add 2) fun K L M=>Ls G ((H.add (F.toNat*7)).add 3) fun N=>Ll G ((H.add (F.toNat*7)).add 4) fun O P Q=>Lb G ((H.add (F.toNat*7)).add 5) fun S=>Lb G ((H.add (F.toNat*7)).add 6) fun U=>True/\True/\(let W:=G.alloc (.cells #[.int .i64 I,.string J,.slice K L M,.string N,.slice O P Q,.bool S,.bool U] 96);
 Cl 133 #[(.agg #[.int .i64 I,.string J,.slice K L M])] W (fun X Y Z aa=>(KeepT 30 W aa/\KeepT 51 W aa/\KeepT 96 W aa/\True)/\Ap 81 (.slice C D E) (.slice X Y Z) aa fun ab ac ad ae=>(KeepT 30 aa ae/\KeepT 51 aa ae/\KeepT 96 aa ae/\True)/\(A ab ac ad (wr (F+1)) ae/\B ab ac ad (wr (F+1)) ae<B C D E F G)))) (R (.returned (.slice C D E)) G))))))):CP 77 #[.pointer a,(.agg #[.slice b c d,.slice e f g]),(.agg #[.string i,.string j,.slice k l m,.slice n o p,.slice q r s])] w R:=
 vcq Tryz.func77 [4,5,9] [(8,⟨[(7,.slice),(15,.int .i64)],[]⟩)] [.l (.optr a),.agg [.slice b c d,.slice e f g],.agg [.str i,.str j,.slice k l m,.slice n o p,.slice q r s]] h
theorem r_j (a:OA)(b:OA)(c d:Nat)(e:OA)(f g:Nat)(i:BA)(j:BA)(k:OA)(l m:Nat)(n:OA)(o p:Nat)(q:OA)(r s:Nat)(w:World)(R:EW)(h:
 True/\(let t:=w.alloc (.cells #[.slice b c d,.slice e f g] 30);
 True/\(let u:=t.alloc (.cells #[.string i,.string j,.slice k l m,.slice n o p,.slice q r s] 51);
 ∀ v,v=u.drew->Cl 181 #[.pointer a,.slice n o p] v (fun x y z A=>(KeepT 30 v A/\KeepT 51 v A/\True)/\((0=0)/\(0=0)/\True)/\Cs 59 #[.pointer a,.string i] A (fun B C=>(KeepT 30 A C/\KeepT 51 A C/\True)/\((0=0)/\True)/\Cl 182 #[.pointer a,.slice q r s,.string B] C (fun D E F G=>(KeepT 30 C G/\KeepT 51 C G/\True)/\True/\Ap 90 (.slice x y z) (.slice D E F) G fun H I J K=>(KeepT 30 G K/\KeepT 51 G K/\True)/\True/\True/\Cl 81 #[(.agg #[.slice b c d,.slice e f g]),.slice q r s] K (fun L M N O=>(KeepT 30 K O/\KeepT 51 K O/\True)/\∃ (P:OA->Nat->Nat->Int->World->Prop) (Q:OA->Nat->Nat->Int->World->Nat),P H I J 0 O/\
 (∀ (S:OA) (U V:Nat),∀ W:Int,∀ X:World,P S U V W X->
 (Br (decide (W<(M:Int))) (Ix L W M fun Y=>Ls X (Y.add (W.toNat*1)) fun Z=>CP 72 #[(.agg #[.slice b c d,.slice e f g]),.string Z] X (fun aa ab=>∃ ac,∃ ad,∃ ae af ag,∃ ah ai aj,∃ ak,aa=.returned (.tuple #[(.agg #[.string ac,.string ad,.slice ae af ag,.slice ah ai aj]),.bool ak])/\(KeepT 30 X ab/\KeepT 51 X ab/\True)/\True/\True/\(let am:=ab.alloc (.cells #[.string ac,.string ad,.slice ae af ag,.slice ah ai aj] 63);
 Cl 181 #[.pointer a,.slice ae af ag] am (fun an ao ap aq=>(KeepT 30 am aq/\KeepT 51 am aq/\KeepT 63 am aq/\True)/\Ap 90 (.slice S U V) (.slice an ao ap) aq fun ar au av ax=>(KeepT 30 aq ax/\KeepT 51 aq ax/\KeepT 63 aq ax/\True)/\Cl 182 #[.pointer a,.slice ah ai aj,.string ad] ax (fun ay az aA aB=>(KeepT 30 ax aB/\KeepT 51 ax aB/\KeepT 63 ax aB/\True)/\Ap 90 (.slice ar au av) (.slice ay az aA) aB fun aC aD aE aF=>(KeepT 30 aB aF/\KeepT 51 aB aF/\KeepT 63 aB aF/\True)/\(P aC aD aE (wr (W+1)) aF/\Q aC aD aE (wr (W+1)) aF<Q S U V W X)))))) (R (.returned (.slice S U V)) X)))))))))):CP 132 #[.pointer a,(.agg #[.slice b c d,.slice e f g]),(.agg #[.string i,.string j,.slice k l m,.slice n o p,.slice q r s])] w R:=
 vcq Tryz.func132 [4,5,10] [(8,⟨[(7,.slice),(30,.int .i64)],[]⟩)] [.l (.optr a),.agg [.slice b c d,.slice e f g],.agg [.str i,.str j,.slice k l m,.slice n o p,.slice q r s]] h
theorem r_n (a:OA)(b:OA)(c d:Nat)(w:World)(R:EW)(h:
 ∃ (e:OA->Nat->Nat->Int->World->Prop) (f:OA->Nat->Nat->Int->World->Nat),e none 0 0 0 w/\
 (∀ (g:OA) (i j:Nat),∀ k:Int,∀ l:World,e g i j k l->
 (Br (decide (k<(c:Int))) (Ix b k c fun m=>L_sl l (m.add (k.toNat*2)) fun n o p q=>True/\True/\(let s:=l.alloc (.cells #[.string n,.slice o p q] 103);
 CP 67 #[.pointer a,.string n] s (fun t u=>∃ v,∃ x,∃ y z A,∃ B C D,∃ E,∃ F,t=.returned (.tuple #[(.agg #[.string v,.string x,.slice y z A,.slice B C D,.bool E]),.bool F])/\(KeepT 103 s u/\True)/\True/\True/\(let H:=u.alloc (.cells #[.string v,.string x,.slice y z A,.slice B C D,.bool E] 105);
 Cl 64 #[.slice o p q,.slice y z A] H (fun I J K L=>(KeepT 103 H L/\KeepT 105 H L/\True)/\Ap 90 (.slice g i j) (.slice I J K) L fun M N O P=>(KeepT 103 L P/\KeepT 105 L P/\True)/\(e M N O (wr (k+1)) P/\f M N O (wr (k+1)) P<f g i j k l)))))) (R (.returned (.slice g i j)) l)))):CP 181 #[.pointer a,.slice b c d] w R:=
 vcq Tryz.func181 [7,8] [(8,⟨[(5,.slice),(12,.int .i64)],[]⟩)] [.l (.optr a),.l (.slice b c d)] h
theorem r_k (a:OA)(b:OA)(c d:Nat)(e:BA)(w:World)(R:EW)(h:
 True/\(let f:=w.alloc (.cells #[.pointer a] 33);
 True/\(let g:=f.alloc (.cells #[.slice none 0 0] 90);
 Lp g (adr w.heap.size) fun i=>C0 104 #[.pointer i,.slice b c d,.string e,(.func (.func 200) #[] #[(.pointer (some (adr w.heap.size))),(.pointer (some (adr f.heap.size)))])] g (fun j=>True/\Ll j (adr f.heap.size) fun k l m=>R (.returned (.slice k l m)) j)))):CP 182 #[.pointer a,.slice b c d,.string e] w R:=
 vcq Tryz.func182 [] [] [.l (.optr a),.l (.slice b c d),.l (.str e)] h
theorem r_g (a:Int)(b:BA)(c:BA)(d:BA)(e:OA)(f g:Nat)(i:OA)(j k:Nat)(l:OA)(m n:Nat)(o:BA)(p:Addr)(q:Addr)(w:World)(R:EW)(h:
 True/\(let r:=w.alloc (.cells #[.int .i64 a,.string b,.string c,.string d,.slice e f g,.slice i j k,.slice l m n] 67);
 Lp r p fun s=>CP 53 #[.pointer s,.string o,.string c] r (fun t u=>∃ v,∃ x,∃ y z A,∃ B C D,∃ E,∃ F G H,∃ I,∃ J K L,∃ M,t=.returned (.tuple #[(.agg #[.string v,.string x,.slice y z A,.slice B C D,.string E,.slice F G H,.bool I,.slice J K L]),.bool M])/\(KeepT 67 r u/\True)/\True/\True/\(let O:=u.alloc (.cells #[.string v,.string x,.slice y z A,.slice B C D,.string E,.slice F G H,.bool I,.slice J K L] 70);
 ∀ P,P=O.drew->Ll P q fun Q S U=>Cl 64 #[.slice e f g,.slice y z A] P (fun V W X Y=>(KeepT 67 P Y/\KeepT 70 P Y/\True)/\((Y.cell? q=P.cell? q)/\True)/\Ap 90 (.slice Q S U) (.slice V W X) Y fun Z aa ab ac=>(KeepT 67 Y ac/\KeepT 70 Y ac/\True)/\True/\Off ac q 1 [67,70]/\True/\(let ad:=(ac.setCell q (.slice Z aa ab));
 True/\∀ ae,ae=ad.drew->Ll ae q fun af ag ah=>Lp ae p fun ai=>Cl 181 #[.pointer ai,.slice i j k] ae (fun aj ak al am=>(KeepT 67 ae am/\KeepT 70 ae am/\True)/\((am.cell? q=ae.cell? q)/\True)/\Ap 90 (.slice af ag ah) (.slice aj ak al) am fun an ao ap aq=>(KeepT 67 am aq/\KeepT 70 am aq/\True)/\True/\Off aq q 1 [67,70]/\True/\(let ar:=(aq.setCell q (.slice an ao ap));
 True/\R (.returned (.tuple #[])) ar)))))))):CP 200 #[(.agg #[.int .i64 a,.string b,.string c,.string d,.slice e f g,.slice i j k,.slice l m n]),.string o,(.pointer (some p)),(.pointer (some q))] w R:=
 vcq Tryz.func200 [4,6] [] [.agg [.int .i64 a,.str b,.str c,.str d,.slice e f g,.slice i j k,.slice l m n],.l (.str o),.l (.ptr p),.l (.ptr q)] h
theorem q_I (a:OA)(b c:Nat)(d:OA)(e f:Nat)(w:World)(R:EW)(h:
 ∃ (g:OA->Nat->Nat->Int->World->Prop) (i:OA->Nat->Nat->Int->World->Nat),g none 0 0 0 w/\
 (∀ (j:OA) (k l:Nat),∀ m:Int,∀ n:World,g j k l m n->
 (Br (decide (m<(b:Int))) (Ix a m b fun o=>L_sisl n (o.add (m.toNat*4)) fun p q r s t u=>True/\True/\(let x:=n.alloc (.cells #[.string p,.int .i64 q,.string r,.slice s t u] 167);
 True/\True/\(let y:=x.alloc (.cells #[.int .i64 0,(.string (⟨#[]⟩:BA)),.slice none 0 0,(.string (⟨#[]⟩:BA)),.slice none 0 0,.bool false,.bool false] 96);
 Off y (adr x.heap.size) 7 [167]/\True/\(let z:=(((((((y.setCell (adr x.heap.size) (.int .i64 q)).setCell ((adr x.heap.size).add 1) (.string r)).setCell ((adr x.heap.size).add 2) (.slice s t u)).setCell ((adr x.heap.size).add 3) (.string (⟨#[]⟩:BA))).setCell ((adr x.heap.size).add 4) (.slice none 0 0)).setCell ((adr x.heap.size).add 5) (.bool false)).setCell ((adr x.heap.size).add 6) (.bool false));
 ∃ (A:Int->World->Prop) (B:Int->World->Nat),A 0 z/\
 (∀ C:Int,∀ D:World,A C D->
 (Br (decide (C<(e:Int))) (∀ E:World->Prop,(∀ F:World,
 ((A (wr (C+1)) F/\B (wr (C+1)) F<B C D))->
 E F)->
 Ix d C e fun G=>L_ssslbll D (G.add (C.toNat*7)) fun H I J K L M N O P Q S U V=>True/\True/\(let X:=D.alloc (.cells #[.string H,.string I,.string J,.slice K L M,.bool N,.slice O P Q,.slice S U V] 125);
 (Br (I.toList==p.toList) (Off X ((adr x.heap.size).add 3) 3 [167,125]/\True/\(let Y:=(((X.setCell ((adr x.heap.size).add 3) (.string J)).setCell (((adr x.heap.size).add 3).add 1) (.slice K L M)).setCell (((adr x.heap.size).add 3).add 2) (.bool N));
 Off Y ((adr x.heap.size).add 6) 1 [167,125]/\True/\(let Z:=(Y.setCell ((adr x.heap.size).add 6) (.bool true));
 E Z))) (E X)))) (Li D (adr x.heap.size) fun aa=>Ls D ((adr x.heap.size).add 1) fun ab=>Ll D ((adr x.heap.size).add 2) fun ac ad ae=>Ls D ((adr x.heap.size).add 3) fun af=>Ll D ((adr x.heap.size).add 4) fun ag ah ai=>Lb D ((adr x.heap.size).add 5) fun aj=>Lb D ((adr x.heap.size).add 6) fun ak=>True/\(let al:=D.alloc (.cells #[.int .i64 aa,.string ab,.slice ac ad ae,.string af,.slice ag ah ai,.bool aj,.bool ak] 96);
 Ap 90 (.slice j k l) (.slice (some (adr D.heap.size)) 1 1) al fun am an ao ap=>(KeepT 167 al ap/\True)/\(g am an ao (wr (m+1)) ap/\i am an ao (wr (m+1)) ap<i j k l m n))))))))) (R (.returned (.slice j k l)) n)))):CP 64 #[.slice a b c,.slice d e f] w R:=
 vcq Tryz.func64 [7,10] [(8,⟨[(5,.slice),(13,.int .i64)],[]⟩),(25,⟨[(22,.int .i64)],[]⟩),(32,⟨[],[]⟩)] [.l (.slice a b c),.l (.slice d e f)] h
set_option maxRecDepth 100000
theorem q_s (a:OA)(b:BA)(w:World)(R:EW)(h:
 True/\(let c:=w.alloc (.cells #[(.string (⟨#[]⟩:BA)),(.string (⟨#[]⟩:BA)),.slice none 0 0,.slice none 0 0,.bool false] 105);
 ∀ d,d=c.drew->Pt a fun e=>Ll d (e.add 2) fun f g i=>CP 58 #[] d (fun j k=>∃ l m n,∃ o p q,∃ r s t,∃ u v x,∃ y z A,j=.returned (.agg #[.slice l m n,.slice o p q,.slice r s t,.slice u v x,.slice y z A])/\(KeepT 105 d k/\True)/\((k.cell? (e.add 2)=d.cell? (e.add 2))/\True)/\Ap 23 (.slice r s t) (.slice f g i) k fun B C D E=>(KeepT 105 k E/\True)/\True/\∃ (F:Int->BA->BA->OA->Nat->Nat->OA->Nat->Nat->Bool->World->Prop) (G:Int->BA->BA->OA->Nat->Nat->OA->Nat->Nat->Bool->World->Nat),F 0 (⟨#[]⟩:BA) (⟨#[]⟩:BA) none 0 0 none 0 0 false E/\
 (∀ H:Int,∀ I:BA,∀ J:BA,∀ (K:OA) (L M:Nat),∀ (N:OA) (O P:Nat),∀ Q:Bool,∀ S:World,F H I J K L M N O P Q S->
 (Br (decide (H<(C:Int))) (Ix B H C fun U=>L_ssllb S (U.add (H.toNat*5)) fun V W X Y Z aa ab ac ad=>True/\True/\(let af:=S.alloc (.cells #[.string V,.string W,.slice X Y Z,.slice aa ab ac,.bool ad] 105);
 (Br (W.toList==b.toList) (True/\(let ag:=setB af (w.heap.size) [.string V,.string W,.slice X Y Z,.slice aa ab ac,.bool ad] 105;
 R (.returned (.tuple #[(.agg #[.string V,.string W,.slice X Y Z,.slice aa ab ac,.bool ad]),.bool true])) ag)) ((F (wr (H+1)) I J K L M N O P Q af/\G (wr (H+1)) I J K L M N O P Q af<G H I J K L M N O P Q S))))) (True/\True/\(let ah:=setB S (w.heap.size) [(.string (⟨#[]⟩:BA)),(.string (⟨#[]⟩:BA)),.slice none 0 0,.slice none 0 0,.bool false] 105;
 R (.returned (.tuple #[(.agg #[(.string (⟨#[]⟩:BA)),(.string (⟨#[]⟩:BA)),.slice none 0 0,.slice none 0 0,.bool false]),.bool false])) ah))))))):CP 67 #[.pointer a,.string b] w R:=
 vcq Tryz.func67 [4,7] [(6,⟨[(16,.int .i64)],[(0,[.str,.str,.slice,.slice,.bool])]⟩)] [.l (.optr a),.l (.str b)] h
set_option maxRecDepth 100000
variable [DB]
def AppT (t T n:Nat):Prop:=∃ (i:TypeInfo) (z:Value) (bytes:Nat),Tryz.prog.underlying t=some (.slice T)/\Tryz.prog.info? T=some i/\i.zero=some z/\i.size=n/\i.bytes=bytes/\z.cells.size=n/\0<n/\bytes<=4096
def Acc {α:Type}(wb w:World)(T n:Nat)(R:α->List Value->Prop)(A:OA)(L C:Nat)(xs:List α):Prop:=
 EF wb w/\L=xs.length/\∃ cells,Own wb.heap.size w T n A L C cells/\Flat n R xs cells
section
variable {α:Type} {wb w w':World} {t T n:Nat} {R:α->List Value->Prop} {A:OA} {L C:Nat} {xs ys:List α} {x:α}
theorem Acc.nil (h:EF wb w):Acc wb w T n R none 0 0 ([]:List α):=⟨h,rfl,[],Own.nil ..,.nil⟩
theorem Acc.step (h:Acc wb w T n R A L C xs)(hx:EF w w'):Acc wb w' T n R A L C xs:=by
 obtain ⟨h1,h2,cells,h3,h4⟩:=h;exact ⟨h1.then hx,h2,cells,h3.keep hx fun _ _=>id,h4⟩
theorem Acc.sl (h:Acc wb w T n R A L C xs)(hn:0<n)(hl:xs.length<=4194304):SlL w T n R A L C xs:=by
 obtain ⟨h1,h2,cells,h3,h4⟩:=h;exact h3.sl h4 hn (by omega)
theorem Acc.one (ha:AppT t T n)(hlen:∀ x cs,R x cs->cs.length=n)(h:Acc wb w T n R A L C xs){cs:List Value}(hr:R x cs)(hsm:∀ v∈cs,a_v v)(h2:xs.length<16777216):
  ∃ (A':OA) (C':Nat) (w':World),(Go.builtin .append #[t,t] t #[false,false] #[.slice A L C,.slice (some (adr w.heap.size)) 1 1]).run Tryz.prog (w.alloc (.cells cs.toArray T))=.ok (.value (.slice A' (L+1) C')) w'/\
   Acc wb w' T n R A' (L+1) C' (xs++[x])/\∀ T',T'≠T->KeepT T' (w.alloc (.cells cs.toArray T)) w':=by
 obtain ⟨i,z,bytes,a1,a2,a3,a4,a5,a6,a7,a8⟩:=ha;obtain ⟨h1,hL,cells,h3,h4⟩:=h;obtain ⟨A',C',w',r,⟨cells',o',f'⟩,hx,hk⟩:=d_y t T i z n bytes a1 a2 a3 a4 a5 a6 a7 a8 h3 h1.size h4 (hlen _ _ hr) hsm hr hlen (by omega) t #[false,false];refine ⟨A',C',w',r,⟨h1.trans hx fun b hb hbl=>?_,by rw [la_,hL];rfl,cells',o',f'⟩,hk⟩;have:=(h3.base b hbl).1;omega
theorem Acc.more (ha:AppT t T n)(hlen:∀ x cs,R x cs->cs.length=n)(h:Acc wb w T n R A L C xs){a:OA}{l c:Nat}(hr:SlL w T n R a l c ys)(h2:xs.length+ys.length<=16777216):
  ∃ (A':OA) (C':Nat) (w':World),(Go.builtin .append #[t,t] t #[false,false] #[.slice A L C,.slice a l c]).run Tryz.prog w=.ok (.value (.slice A' (L+l) C')) w'/\
   Acc wb w' T n R A' (L+l) C' (xs++ys)/\∀ T',T'≠T->KeepT T' w w':=by
 obtain ⟨i,z,bytes,a1,a2,a3,a4,a5,a6,a7,a8⟩:=ha;obtain ⟨h1,hL,cells,h3,h4⟩:=h;have hl:=hr.len.1;obtain ⟨A',C',w',r,⟨cells',o',f'⟩,hx,-⟩:=c_7 t T i z n bytes a1 a2 a3 a4 a5 a6 a7 a8 h3 h1.size h4 hr hlen (by omega) t #[false,false];refine ⟨A',C',w',r,⟨h1.trans hx fun b hb hbl=>?_,by rw [la_,hL,hl],cells',o',f'⟩,fun T' hT=>h3.keepT hx hT⟩;have:=(h3.base b hbl).1;omega
theorem Acc.get (h:Acc wb w T n R A L C xs){i:Int}(h0:0<=i)(hi:i<(L:Int)):∃ (p:Addr) (x:α) (cs:List Value),A=some p/\xs[i.toNat]? =some x/\R x cs/\∀ k u,cs[k]? =some u->At w T ((p.add (i.toNat*n)).add k) u:=by
 obtain ⟨h1,h2,cells,h3,h4⟩:=h;obtain ⟨x,hx⟩:∃ x,xs[i.toNat]? =some x:=⟨_,List.getElem?_eq_getElem (by omega)⟩;obtain ⟨cs,g1,g2,g3,g4⟩:=h4.get _ x hx;have hp:∃ p,A=some p:=by
  obtain ⟨-, h|⟨g,cap,cur,e1,-⟩⟩:=h3
  ·obtain ⟨h,-⟩:=h;simp only [Value.slice.injEq] at h;omega
  ·simp only [Value.slice.injEq] at e1;exact ⟨_,e1.1⟩
 obtain ⟨p,rfl⟩:=hp;refine ⟨p,x,cs,rfl,hx,g3,fun k u hu=>?_⟩;obtain ⟨p',hp',ha⟩:=h3.at (g4 k u hu);obtain rfl:p=p':=Option.some.inj hp';rw [add_add'];exact ha
theorem KeepT.at {w w':World}{T:TypeId}(h:KeepT T w w'){a:Addr}{v:Value}(ha:At w T a v):At w' T a v:=by
 obtain ⟨cs,fr,h1,h2⟩:=ha;exact ⟨cs,fr,h _ _ _ h1,h2⟩
theorem KeepT.then {w w' w'':World}{T:TypeId}(h:KeepT T w w')(h':KeepT T w' w''):KeepT T w w'':=fun b c fr hb=>h' b c fr (h b c fr hb)
end
def RUse (w0:World)(x:List Dir × BA)(cs:List Value):Prop:=∃ (a:OA) (l c:Nat),cs=[.slice a l c,.string x.2]/\RDirs w0 a l c x.1
theorem RUse.len {w0:World}(x:List Dir × BA)(cs:List Value):RUse w0 x cs->cs.length=2:=fun ⟨_,_,_,h,_⟩=>by rw [h];rfl
def p_W (k:Int):BA:=if k=0 then l_1 else if k=1 then h_9 else j_0
def spLoc (k:BA):BA:=if k=bMut then bMLoc else if k=bSub then bSLoc else bQLoc
mutual
def usS:Sel->List (List Dir × BA)
 | .mk k _ _ _ _ dirs kids=>(dirs,p_W k)::usL kids
def usL:List Sel->List (List Dir × BA)
 | []=>[]
 | s::l=>usS s++usL l
end
theorem take_snoc' {α:Type}{xs:List α}{i:Int}{x:α}(h0:0<=i)(hx:xs[i.toNat]? =some x):xs.take (i+1).toNat=xs.take i.toNat++[x]:=by
 rw [show (i+1).toNat=i.toNat+1 by omega,List.take_add_one,hx];rfl
theorem q_p {α β:Type}(f:α->List β){xs:List α}{i:Int}{x:α}(h0:0<=i)(hx:xs[i.toNat]? =some x):(xs.take (i+1).toNat).flatMap f=(xs.take i.toNat).flatMap f++f x:=by
 rw [take_snoc' h0 hx,List.flatMap_append];simp
theorem q_q {α β:Type}(f:α->List β)(xs:List α)(j:Nat):((xs.take j).flatMap f).length<=(xs.flatMap f).length:=by
 have:xs.flatMap f=(xs.take j).flatMap f++(xs.drop j).flatMap f:=by rw [<- List.flatMap_append,List.take_append_drop]
 rw [this,la_];omega
abbrev USof (w0:World)(xs:List Sel):Prop:=∀ (a:OA) (l c:Nat) (w:World),EF w0 w->RSels w0 a l c xs->a_z xs->selL xs<=2097152->
 CP 120 #[.slice a l c] w fun e w'=>∃ A L C,e=.returned (.slice A L C)/\Acc w w' 101 2 (RUse w0) A L C (usL xs)
def usO (x:OpD):List (List Dir × BA):=[(x.dirs,spLoc x.kind)]++(x.vars.map fun v=>(v.dirs,d_Y))++usL x.kids
def usF (x:Frag):List (List Dir × BA):=[(x.dirs,d_z)]++usL x.kids
def usesD (ops:List OpD)(frags:List Frag):List (List Dir × BA):=ops.flatMap usO++frags.flatMap usF
theorem Own.le {b2 b:Nat}{w:World}{T n:Nat}{a:OA}{l c:Nat}{xs:List Value}(h:Own b2 w T n a l c xs)(hb:b<=b2):Own b w T n a l c xs:=
 ⟨h.1,h.2.imp id fun ⟨g,cap,cur,e1,e2,e⟩=>⟨g,cap,cur,e1,lt_ hb e2,e⟩⟩
theorem q_F {α:Type}(t T:TypeId)(i:TypeInfo)(z:Value)(n bytes:Nat)(ht:Tryz.prog.underlying t=some (.slice T))(hi:Tryz.prog.info? T=some i)(hz:i.zero=some z)
  (hsize:i.size=n) (hby:i.bytes=bytes) (hzs:z.cells.size=n) (hn:0<n) (h3:bytes<=4096) {base:Nat} {w:World} {A:OA} {l:Nat} {cells:List Value} {R:α->List Value->Prop} {xs ys:List α}
  (hown:Own base w T n A l l cells) (hb:base<=w.heap.size) (h0:0<l) (hf:Flat n R xs cells) {a':OA} {l' c':Nat} (hl:SlL w T n R a' l' c' ys) (hlen:∀ x cs,R x cs->cs.length=n) (h2:l+l'<=16777216) (ty:TypeId) (fs:Array Bool):
  ∃ (A':OA) (C':Nat) (w':World),(Go.builtin .append #[t,t] ty fs #[.slice A l l,.slice a' l' c']).run Tryz.prog w=.ok (.value (.slice A' (l+l') C')) w'/\
   (∃ cells',Own base w' T n A' (l+l') C' cells'/\Flat n R (xs++ys) cells')/\EF w w':=by
 have hown0:=hown;obtain ⟨news,hfn,hnews⟩:=hl.flat hlen;have e:=hl.len.1;obtain ⟨hc,⟨h1,-⟩|⟨g,cap,cur,e1,e2,e3,e4,e5,e6,e7⟩⟩:=hown
 ·simp only [Value.slice.injEq] at h1;omega
 simp only [Value.slice.injEq] at e1;obtain ⟨rfl,-, rfl⟩:=e1;rcases Nat.eq_zero_or_pos l' with h|h
 ·subst h;have hys:ys=[]:=List.length_eq_zero_iff.1 e.symm;subst hys;cases a' with
  | none=>
   exact ⟨_,_,_,d_u t T i ht hi (Nat.le_refl _) ty fs,⟨cells,hown0,by simpa using hf⟩,Ext.refl w⟩
  | some p=>
   have r:=run_append_room_cells (P:=Tryz.prog) w t ty T i ht hi g 0 l l p 0 c' [] (by simp) (by simp) (by simp) (Nat.le_refl _) (fun j hj=>by simp at hj) (fun j hj=>by simp at hj);refine ⟨some ⟨g,0,none⟩,l,w,?_,⟨cells,hown0,by simpa using hf⟩,Ext.refl w⟩;have r':(Builtin.append_ #[t,t] ty #[.slice (some ⟨g,0,none⟩) l l,.slice (some p) 0 c']).run Tryz.prog w=.ok (.slice (some ⟨g,0,none⟩) (l+0) l) w:=r;simp only [Go.builtin,Sem.run_bind,r',Result.andThen_ok,Sem.run_pure]
 ·cases a' with
  | none=>
   cases ys with
   | nil=>simp at e;omega
   | cons y ys=>
    obtain ⟨p,hp,_⟩:=hl.2.2.2 0 y rfl;cases hp
  | some p=>
   obtain ⟨v',w',r,o,gr⟩:=run_append_arg_grows (P:=Tryz.prog) w t ty T i z n bytes ht hi hz hsize hby hzs hn ⟨g,0,none⟩ l l cells hc (fun j u hu=>by
    obtain ⟨q,hq,ha⟩:=Own.at hown0 hu;cases hq;exact ha.cell) p l' c' news (by rw [hfn.len,e]) (fun j u hu=>by
    obtain ⟨p',hp',_,ha⟩:=hnews j u hu;cases hp';exact ha.cell) (by omega) (by simp only [maxLen];omega) (by
     have:(l+l')*bytes<=16777216*4096:=Nat.mul_le_mul h2 h3;omega)
   have hv:∃ A C,v'=.slice A (l+l') C:=by
    obtain ⟨_,h|⟨g,cap,cur,h,_⟩⟩:=o
    ·exact ⟨none,0,by rw [h.1,h.2]⟩
    ·exact ⟨_,_,h⟩
   obtain ⟨A',C',rfl⟩:=hv;refine ⟨A',C',w',?_,⟨_,Own.le o hb,hf.append hfn⟩,Ext.of_grown gr fun k hk=>by cases hk⟩;simp only [Go.builtin,Sem.run_bind,r,Result.andThen_ok,Sem.run_pure]
def q_y:DirDef:=⟨E0,E0,[],[],false⟩
def dirS (dirs:List DirDef)(n:BA):Option DirDef:=a_h DirDef.name (d_s++dirs) n
def dirG (dirs:List DirDef)(n:BA):DirDef × Bool:=match dirS dirs n with
 | some d=>(d,true)
 | none=>(q_y,false)
theorem q_k {dirs:List DirDef}{n:BA}{f:DirDef}(h:dirS dirs n=some f):dirG dirs n=(f,true):=by rw [dirG,h]
theorem q_j {dirs:List DirDef}{n:BA}(h:dirS dirs n=none):dirG dirs n=(q_y,false):=by rw [dirG,h]
theorem RPre.shape {w:World}{k1 k2 k3 k4 k5 k6 k7 k8:Nat}{x:DirDef}{cs:List Value}(h:RPre w (a_y k1 k2 k3 k4 k5 k6 k7 k8) x cs):∃ a l c a' l' c',cs=[.string x.doc,.string x.name,.slice a l c,.slice a' l' c',.bool x.rep]:=by
 rcases h with ⟨a,l,c,a',l',c',rfl,-⟩|h
 ·exact ⟨_,_,_,_,_,_,rfl⟩
 ·simp only [a_y,mc_,nn_,or_false,Prod.mk.injEq] at h;rcases h with ⟨rfl,rfl⟩|⟨rfl,rfl⟩|⟨rfl,rfl⟩|⟨rfl,rfl⟩<;>exact ⟨_,_,_,_,_,_,rfl⟩
section
variable {k:Nat} {A4:OA} {L4 C4:Nat} {A:OA} {L C:Nat} {A3:OA} {L3 C3:Nat} {dirs:List DirDef}
theorem q_m {n:BA}{w:World}(hDB:DB.B<=w.heap.size)(hB:Blk w k 79 [.slice A4 L4 C4,.slice A L C,.slice A3 L3 C3])(hD:a_Y w A3 L3 C3 dirs)(few:dirs.length<=12):
  CP 67 #[.pointer (some (adr k)),.string n] w fun e w'=>∃ cs,e=.returned (.tuple #[.agg cs.toArray,.bool (dirG dirs n).2])/\c_v w' (dirG dirs n).1 cs/\EF w w':=by
 have x3:EF w (w.alloc (.cells #[.string ⟨#[]⟩,.string ⟨#[]⟩,.slice none 0 0,.slice none 0 0,.bool false] 105)):=(Ext.refl w).alloc _;have hz3:=(Blk.made w 105 [.string ⟨#[]⟩,.string ⟨#[]⟩,.slice none 0 0,.slice none 0 0,.bool false]).lt;refine q_s (some (adr k)) n w _ ⟨trivial,fun w4 e4=>?_⟩;have x4:EF w w4:=by rw [e4];exact x3.drew
 have hz4:w.heap.size<w4.heap.size:=Nat.lt_of_lt_of_le hz3 (by rw [e4];exact ((Ext.refl _).drew (X:=fun _=>False)).size);have a4:=(hB.ext x4 id).at (j:=2) rfl;refine ⟨adr k,rfl,_,_,_,a4.cell,?_⟩;refine (l_5 w w4 (lt_ hDB x4.size)).mono ?_;rintro _ w8 ⟨D,T,L0,C0,k1,k2,k3,k4,k5,k6,k7,k8,rfl,x8,-, ⟨cells,oD,fD⟩,hbl,hge⟩;have y8:=x4.then x8;obtain ⟨A14,C14,w15,r15,⟨cells',o15,f15⟩,x15⟩:=q_F 23 105 Tryz.t105 _ 5 _ (by kernel_rfl) (by kernel_rfl) rfl (by kernel_rfl) rfl (by kernel_rfl) (by omega) (by decide) oD x8.size (by omega) fD (R:=RPre w (a_y k1 k2 k3 k4 k5 k6 k7 k8)) (SlL.keep y8.keep (by decide) hD fun _ _ _ h=>.inl h) (fun x cs h=>by
  obtain ⟨a,l,c,a',l',c',rfl⟩:=RPre.shape h;rfl) (by have:=hD.len;omega) 23 #[false,false]
 have y15:=y8.then x15;have bl15:=hbl.keep x15 fun _ _=>id;have hlen:=hD.len;have acc:Acc w4 w15 105 5 (RPre w (a_y k1 k2 k3 k4 k5 k6 k7 k8)) A14 (4+L3) C14 (d_s++dirs):=⟨x8.then x15,by rw [la_];simp [d_s];omega,cells',o15,f15⟩;refine ⟨_,_,_,_,_,_,_,_,_,_,_,_,_,_,_,rfl,⟨x8.keepT _,trivial⟩,⟨x8.cell_eq id a4.cell,trivial⟩,A14,4+L3,C14,w15,r15,⟨x15.keepT _,trivial⟩,trivial,fun i _ _ _ _ _ _ _ _ _ w1=>0<=i/\i<=((4+L3:Nat):Int)/\EF w15 w1/\a_h DirDef.name ((d_s++dirs).take i.toNat) n=none,fun i _ _ _ _ _ _ _ _ _ _=>(((4+L3:Nat):Int)-i).toNat,⟨by omega,by omega,Ext.refl w15,by simp [a_h]⟩,?_⟩;rintro i s19 s20 a21 l21 c21 a22 l22 c22 b23 w1 ⟨h0,hi,hx,hf1⟩;have y1:=y15.then hx;refine ⟨fun hlt=>?_,fun hge'=>?_⟩
 ·have hlt:=odt hlt;obtain ⟨p,x,cs,hp,hxs,hr,hat⟩:=(acc.step hx).get h0 hlt;obtain ⟨a,l,c,a',l',c',rfl⟩:=RPre.shape hr;have y32:=y1.alloc (.cells #[.string x.doc,.string x.name,.slice a l c,.slice a' l' c',.bool x.rep] 105);have h32:=hx.alloc (.cells #[.string x.doc,.string x.name,.slice a l c,.slice a' l' c',.bool x.rep] 105);refine ⟨p,hp,⟨h0,hlt⟩,_,(hat 0 _ rfl).cell,_,(hat 1 _ rfl).cell,_,_,_,(hat 2 _ rfl).cell,_,_,_,(hat 3 _ rfl).cell,_,(hat 4 _ rfl).cell,trivial,trivial,fun he=>?_,fun hne=>?_⟩
  ·rw [q_k (show dirS dirs n=some x from c_J hf1 hxs (a_b.1 he))];have yE:=y32.setB (b:=w.heap.size) (.inr (Nat.le_refl _)) [.string x.doc,.string x.name,.slice a l c,.slice a' l' c',.bool x.rep] 105;refine ⟨trivial,_,rfl,?_,yE⟩;rcases hr with hr|hr
   ·exact hr.keep yE.keep
   ·refine m_E (fun y hy=>?_) _ hr;have hs:Ext (fun b=>b=w.heap.size) _ (setB (w1.alloc (.cells #[.string x.doc,.string x.name,.slice a l c,.slice a' l' c',.bool x.rep] 105)) w.heap.size [.string x.doc,.string x.name,.slice a l c,.slice a' l' c',.bool x.rep] 105):=Ext.setB (X:=fun b=>b=w.heap.size) (Ext.refl _) (.inl rfl) _ _;exact ((bl15 y hy).ext h32 id).ext hs fun e=>by
     have:=hge y hy;have e':y.1=w.heap.size:=e;omega
  ·rw [a_a h0 (by omega)];exact next h0 hlt ⟨h32,c_h h0 hf1 hxs (a_f.1 hne)⟩
 ·have hle:=odf hge';have hl4:(d_s++dirs).length=4+L3:=by rw [la_];simp [d_s];omega
  rw [tl_ (by omega)] at hf1;rw [q_j (show dirS dirs n=none from hf1)];have yE:=y1.setB (b:=w.heap.size) (.inr (Nat.le_refl _)) [.string ⟨#[]⟩,.string ⟨#[]⟩,.slice none 0 0,.slice none 0 0,.bool false] 105;exact ⟨trivial,trivial,_,rfl,⟨none,0,0,none,0,0,rfl,SlL.nil ..,SlL.nil ..⟩,yE⟩
variable {a:OA} {l c:Nat} {a':OA} {l' c':Nat} {ops:List OpD} {frags:List Frag} {w:World}
def onceN (dirs:List DirDef)(ds:List Dir):List BA:=(ds.filter fun d=>(dirG dirs d.name).2&& !(dirG dirs d.name).1.rep).map Dir.name
end
theorem appGv:AppT 90 96 7:=⟨Tryz.t96,_,_,by kernel_rfl,by kernel_rfl,rfl,by kernel_rfl,rfl,by kernel_rfl,by omega,by decide⟩
theorem r_G:AppT 81 9 1:=⟨Tryz.t9,_,_,by kernel_rfl,by kernel_rfl,rfl,by kernel_rfl,rfl,by kernel_rfl,by omega,by decide⟩
theorem r_F (x:BA)(cs:List Value)(h:RS x cs):cs.length=1:=by rw [h];rfl
abbrev gv (q:Int)(r:BA)(s:OA)(t u:Nat)(y:BA)(v:OA)(m n:Nat)(h b:Bool):List Value:=[.int .i64 q,.string r,.slice s t u,.string y,.slice v m n,.bool h,.bool b]
def RGw (w:World)(x:Val)(cs:List Value):Prop:=∃ q r s t u y v m n h b,cs=gv q r s t u y v m n h b/\RVal w x q r s t u/\r.size<=4194304
theorem RGw.len {w:World}(x:Val)(cs:List Value):RGw w x cs->cs.length=7:=by
 rintro ⟨q,r,s,t,u,y,v,m,n,h,b,rfl,-⟩;rfl
theorem RGw.keep {w w':World}(h:Keep w w'){x:Val}{cs:List Value}:RGw w x cs->RGw w' x cs
 | ⟨q,r,s,t,u,y,v,m,n,hh,b,e,h1,h2⟩=>⟨q,r,s,t,u,y,v,m,n,hh,b,e,h1.keep h,h2⟩
theorem Acc.mono {α:Type}{wb w:World}{T n:Nat}{R R':α->List Value->Prop}{A:OA}{L C:Nat}{xs:List α}(h:Acc wb w T n R A L C xs)(hr:∀ x cs,R x cs->R' x cs):Acc wb w T n R' A L C xs:=by
 obtain ⟨h1,h2,cells,h3,h4⟩:=h;exact ⟨h1,h2,cells,h3,h4.mono fun x _=>hr x⟩
theorem r_P {base:Nat}{w w':World}{T n:Nat}{a:OA}{l c:Nat}{xs:List Value}(h:Own base w T n a l c xs)(hd:dataT T=false)(hDB:DB.B<=base)(hx:Ext (blkOf a) w w'):Keep w w':=by
 intro T1 T' ad v ht ho ha;by_cases hb:blkOf a ad.block
 ·have hlo:=(h.base _ hb).1;obtain ⟨h1,h2|⟨g,cap,cur,e1,e2,e3,e4⟩⟩:=h
  ·obtain ⟨p,hp,-⟩:=hb;rw [hp] at h2;simp at h2
  ·simp only [Value.slice.injEq] at e1;obtain ⟨p,hp,hpb⟩:=hb;rw [e1.1] at hp;cases hp;obtain ⟨cs,fr,k1,-⟩:=ha;rw [<- hpb,show objAt w g=some (.cells cur T (0,0)) from e3] at k1;simp only [Option.some.injEq,Obj.cells.injEq] at k1;obtain ⟨-, rfl,-⟩:=k1;rcases ho with rfl|ho
   ·rw [ht] at hd;cases hd
   ·omega
 ·exact hx.at hb ha
theorem r_L {base:Nat}{w:World}{T T0 n ob:Nat}{a:OA}{l c:Nat}{xs vs:List Value}(h:Own base w T n a l c xs)(hB:Blk w ob T0 vs)(hT:T0≠T):¬ blkOf a ob:=fun hb=>by
 obtain ⟨h1,h2|⟨g,cap,cur,e1,e2,e3,e4⟩⟩:=h
 ·obtain ⟨p,hp,-⟩:=hb;rw [hp] at h2;simp at h2
 ·simp only [Value.slice.injEq] at e1;obtain ⟨p,hp,hpb⟩:=hb;rw [e1.1] at hp;cases hp;have k1:objAt w ob=some (.cells cur T (0,0)):=by rw [<- hpb];exact e3
  rw [show objAt w ob=some (.cells vs.toArray T0 (0,0)) from hB] at k1;simp only [Option.some.injEq,Obj.cells.injEq] at k1;exact hT k1.2.1
theorem SSt.cell {X:Nat->Prop}{w w':World}{ob T0:Nat}{vs:List Value}(hB:Blk w ob T0 vs)(hd:dataT T0=false)(hs:selT T0=false)(hDB:DB.B<=ob)(hX:X ob)(hx:Ext (fun b=>b=ob) w w'):SSt X w w':=by
 refine ⟨hx.mono fun b _ e=>e▸hX,fun T T' a v' ht ho ha=>?_,fun T hT b cs fr hb=>?_⟩
 ·by_cases he:a.block=ob
  ·obtain ⟨cs,fr,h1,-⟩:=ha;rw [he,show objAt w ob=_ from hB] at h1;simp only [Option.some.injEq,Obj.cells.injEq] at h1;obtain ⟨-, rfl,-⟩:=h1;rcases ho with rfl|ho
   ·rw [ht] at hd;cases hd
   ·omega
  ·exact hx.at he ha
 ·refine hx.old b _ (fun e=>?_) hb;have e:b=ob:=e;subst e;rw [show objAt w b=_ from hB] at hb;simp only [Option.some.injEq,Obj.cells.injEq] at hb;obtain ⟨-, rfl,-⟩:=hb;rw [hT] at hs;cases hs
theorem r_I {bz:Nat}{w:World}{A:OA}{L C:Nat}{cells:List Value}{xs ys:List Val}{a:OA}{l c:Nat}(hDB:DB.B<=bz)(hb:bz<=w.heap.size)(h7:Own bz w 96 7 A L C cells)(h8:Flat 7 (RGw w) xs cells)(hr:SlL w 96 7 (RGw w) a l c ys)(h2:xs.length+ys.length<=16777216):
  ∃ (A':OA) (C':Nat) (w':World),(Go.builtin .append #[90,90] 90 #[false,false] #[.slice A L C,.slice a l c]).run Tryz.prog w=.ok (.value (.slice A' (L+l) C')) w'/\
   (∃ cells',Own bz w' 96 7 A' (L+l) C' cells'/\Flat 7 (RGw w') (xs++ys) cells')/\Ext (blkOf A) w w'/\Keep w w'/\∀ T',T'≠96->KeepT T' w w':=by
 obtain ⟨i,z,bytes,a1,a2,a3,a4,a5,a6,a7,a8⟩:=appGv;have hl:=hr.len.1;have hL:=h7.len.1;rw [h8.len] at hL;obtain ⟨A',C',w',r,⟨cells',o',f'⟩,hx,-⟩:=c_7 90 96 i z 7 bytes a1 a2 a3 a4 a5 a6 a7 a8 h7 hb h8 hr RGw.len (by omega) 90 #[false,false];have hk:=r_P h7 (by decide) hDB hx;exact ⟨A',C',w',r,⟨cells',o',f'.mono fun x _ cs=>RGw.keep hk⟩,hx,hk,fun T' hT=>h7.keepT hx hT⟩
theorem Acc.moreG {wb w:World}{A:OA}{L C:Nat}{xs ys:List Val}{a:OA}{l c:Nat}(hDB:DB.B<=wb.heap.size)(h:Acc wb w 96 7 (RGw w) A L C xs)(hr:SlL w 96 7 (RGw w) a l c ys)(h2:xs.length+ys.length<=16777216):
  ∃ (A':OA) (C':Nat) (w':World),(Go.builtin .append #[90,90] 90 #[false,false] #[.slice A L C,.slice a l c]).run Tryz.prog w=.ok (.value (.slice A' (L+l) C')) w'/\
   Acc wb w' 96 7 (RGw w') A' (L+l) C' (xs++ys)/\Keep w w'/\∀ T',T'≠96->KeepT T' w w':=by
 obtain ⟨h1,hL,cells,h3,h4⟩:=h;have hl:=hr.len.1;obtain ⟨A',C',w',r,hc,hx,hk,hk'⟩:=r_I hDB h1.size h3 h4 hr h2;refine ⟨A',C',w',r,⟨h1.trans hx fun b hb hbl=>?_,by rw [la_,hL,hl],hc⟩,hk,hk'⟩;have:=(h3.base b hbl).1;omega
mutual
def vrV:Val->List BA
 | .mk k r kids=>if k=0 then [r] else vrK kids
def vrK:List (BA × Val)->List BA
 | []=>[]
 | x::l=>vrV x.2++vrK l
end
theorem r_C:∀ l:List (BA × Val),vrK l=l.flatMap fun x=>vrV x.2
 | []=>rfl
 | x::l=>by rw [vrK,r_C l];rfl
mutual
theorem r_s:∀ v:Val,(vrV v).length<=valW v
 | .mk k r kids=>by
  have:=r_O kids;simp only [vrV,valW];split
  ·simp only [List.length_cons,List.length_nil];omega
  ·omega
theorem r_O:∀ l:List (BA × Val),(vrK l).length<=kidsW l
 | []=>Nat.le_refl _
 | x::l=>by
  have h1:=r_s x.2;have h2:=r_O l;simp only [vrK,kidsW,la_];omega
end
theorem r_u {x:BA × Val}:∀ {l:List (BA × Val)},x∈l->valW x.2<=kidsW l
 | y::l,h=>by
  simp only [kidsW];rcases mc_.1 h with rfl|h
  ·omega
  ·have:=r_u h;omega
abbrev VrOf (v:Val):Prop:=∀ (k:Int) (r:BA) (a:OA) (l c:Nat) (w:World),RVal w v k r a l c->r.size<=4194304->valW v<=2097152->
 CP 133 #[.agg #[.int .i64 k,.string r,.slice a l c]] w fun e w'=>∃ A L C,e=.returned (.slice A L C)/\Acc w w' 9 1 RS A L C (vrV v)
theorem r_m (k:Int)(r:BA)(kids:List (BA × Val))(IH:∀ x∈kids,VrOf x.2):VrOf (.mk k r kids):=by
 intro k' r' a l c w hv hr hW;obtain ⟨rfl,rfl,hl⟩:=e_U.1 hv;obtain ⟨e1,e3⟩:=hl.len;have x4:EF w (w.alloc (.cells #[.int .i64 k',.string r',.slice a l c] 94)):=(Ext.refl w).alloc _;refine r_y k' r' a l c w _ ⟨trivial,fun hk=>⟨trivial,?_⟩,fun hk=>?_⟩
 ·have hk:k'=0:=by simpa using hk
  refine ⟨_,_,_,rfl,x4.alloc _,?_⟩;rw [show vrV (.mk k' r' kids)=[r'] by rw [vrV,if_pos hk]];exact ⟨rfl,[.string r'],Own.made w.heap.size _ 9 1 1 #[.string r'] x4.size (by simp only [maxLen];omega) rfl,k_0 hr⟩
 ·have hk:¬ k'=0:=fun e=>by simp [e] at hk
  have hvr:vrV (.mk k' r' kids)=kids.flatMap fun x=>vrV x.2:=by rw [vrV,if_neg hk,r_C]
  have hlen:=r_s (.mk k' r' kids);rw [hvr] at hlen ⊢;simp only [valW] at hW hlen;refine ⟨fun A L C i w1=>0<=i/\i<=l/\Acc w w1 9 1 RS A L C ((kids.take i.toNat).flatMap fun x=>vrV x.2),fun _ _ _ i _=>((l:Int)-i).toNat,⟨by omega,by omega,Acc.nil x4⟩,?_⟩;rintro A L C i w1 ⟨h0,hi,ac⟩;refine ⟨fun hlt=>?_,fun hge=>?_⟩
  ·have hlt:=odt hlt;obtain ⟨p,x,hp,hxs,cs,hc,k2,r2,a2,l2,c2,rfl,hv2⟩:=hl.get h0 hlt;obtain ⟨⟨_,_,hc0⟩,hs0,⟨_,_,hc1⟩,hs1,⟨_,_,hc2⟩,hs2,⟨_,_,hc3⟩,-⟩:=hc;have hmem:=mg_ hxs;have hsn:=q_p (fun x:BA × Val=>vrV x.2) h0 hxs;have hle:=q_q (fun x:BA × Val=>vrV x.2) kids (i+1).toNat;have hkw:=r_u hmem;rw [hsn,la_] at hle;have x17:EF w1 (w1.alloc (.cells #[.string x.1,.int .i64 k2,.string r2,.slice a2 l2 c2] 340)):=(Ext.refl w1).alloc _;refine ⟨p,hp,⟨h0,hlt⟩,_,ac.1.cell hc0 id,_,ac.1.cell hc1 id,_,ac.1.cell hc2 id,_,_,_,ac.1.cell hc3 id,trivial,trivial,?_⟩;refine (IH x hmem k2 r2 a2 l2 c2 _ (hv2.keep (ac.1.then x17).keep) hs2 (by omega)).mono ?_;rintro _ w19 ⟨A2,L2,C2,rfl,ac19⟩;obtain ⟨A3,C3,w22,r22,ac22,k22⟩:=((ac.step x17).step ac19.1).more r_G r_F (ac19.sl (by omega) (by omega)) (by omega);refine ⟨A2,L2,C2,rfl,⟨ac19.1.keepT _,ac19.1.keepT _,trivial⟩,A3,L+L2,C3,w22,r22,⟨k22 _ (by decide),k22 _ (by decide),trivial⟩,?_⟩;rw [a_a h0 (by omega)];refine next h0 hlt ?_
   rw [hsn];exact ac22
  ·have hle:=odf hge;rw [tl_ (by omega)] at ac;exact ⟨A,L,C,rfl,ac⟩
theorem r_d:∀ (d:Nat) (v:Val),SizeOf.sizeOf v<d->VrOf v
 | 0,_,h=>by omega
 | d+1,.mk k r kids,h=>r_m k r kids fun x hx=>r_d d x.2 (by
   have h1:=List.sizeOf_lt_of_mem hx;cases x;simp at h1 h ⊢;omega)
theorem r_w (v:Val):VrOf v:=r_d _ v (Nat.lt_succ_self _)
theorem q_G {w0:World}{args:List Argm}{defs:List ArgDef}{a:OA}{l c:Nat}{a':OA}{l' c':Nat}{w:World}(hw0:EF w0 w)(hl:c_1 w0 a l c args)(hl':a_R w a' l' c' defs):
  CP 64 #[.slice a l c,.slice a' l' c'] w fun e w'=>∃ A L C,e=.returned (.slice A L C)/\Acc w w' 96 7 (RGw w0) A L C (args.map Argm.v):=by
 obtain ⟨e1,e3⟩:=hl.len;obtain ⟨e1',e3'⟩:=hl'.len;refine q_I a l c a' l' c' w _ ⟨fun A L C i w1=>0<=i/\i<=l/\Acc w w1 96 7 (RGw w0) A L C ((args.take i.toNat).map Argm.v),fun _ _ _ i _=>((l:Int)-i).toNat,⟨by omega,by omega,Acc.nil (Ext.refl w)⟩,?_⟩;rintro A L C i w1 ⟨h0,hi,ac⟩;refine ⟨fun hlt=>?_,fun hge=>?_⟩
 ·have hlt:=odt hlt;obtain ⟨p,x,hp,hxs,cs,hc,k,r,s,t,u,rfl,hrv⟩:=hl.get h0 hlt;obtain ⟨⟨_,_,hc0⟩,hs0,⟨_,_,hc1⟩,hs1,⟨_,_,hc2⟩,hs2,⟨_,_,hc3⟩,hs3,-⟩:=hc;have x1:=hw0.then ac.1;have x6:EF w1 (w1.alloc (.cells #[.string x.name,.int .i64 k,.string r,.slice s t u] 167)):=(Ext.refl w1).alloc _;refine ⟨p,hp,⟨h0,hlt⟩,_,x1.cell hc0 id,_,x1.cell hc1 id,_,x1.cell hc2 id,_,_,_,x1.cell hc3 id,trivial,trivial,?_⟩;show True/\True/\_;generalize w1.alloc (.cells #[.string x.name,.int .i64 k,.string r,.slice s t u] 167)=w6 at *;have B0:=Blk.made w6 96 [.int .i64 0,.string ⟨#[]⟩,.slice none 0 0,.string ⟨#[]⟩,.slice none 0 0,.bool false,.bool false];have x7:EF w6 (w6.alloc (.cells #[.int .i64 0,.string ⟨#[]⟩,.slice none 0 0,.string ⟨#[]⟩,.slice none 0 0,.bool false,.bool false] 96)):=(Ext.refl w6).alloc _;have hg:=Nat.le_refl w6.heap.size;refine ⟨trivial,trivial,?_⟩;refine ⟨B0.off (j:=0) (n:=7) (q:=fun T=>Nat.beq 167 T||false) (by simp) rfl,trivial,?_⟩;refine ⟨fun j w2=>0<=j/\j<=l'/\EF w6 w2/\∃ y v m n h b,Blk w2 w6.heap.size 96 (gv k r s t u y v m n h b)/\a_v (.string y),fun j _=>((l':Int)-j).toNat,⟨by omega,by omega,((((((x7.setCell (.inr hg) _).setCell (.inr hg) _).setCell (.inr hg) _).setCell (.inr hg) _).setCell (.inr hg) _).setCell (.inr hg) _).setCell (.inr hg) _,_,_,_,_,_,_,((((((B0.set 0 (.int .i64 k)).set 1 (.string r)).set 2 (.slice s t u)).set 3 (.string ⟨#[]⟩)).set 4 (.slice none 0 0)).set 5 (.bool false)).set 6 (.bool false),Nat.le_of_ble_eq_true rfl⟩,?_⟩;rintro j w2 ⟨j0,hj,hy,y,v,m,n,h,b,B2,hsy⟩;have v2:EF w w2:=(ac.1.then x6).then hy;refine ⟨fun hjl=>fun K hK=>?_,fun hjg=>?_⟩
  ·have hjl:=odt hjl;obtain ⟨p',d,hp',hd,cs',hc',n5,a5,l5,c5,nn5,a6,l6,c6,a7,l7,c7,rfl,-⟩:=(a_R.keep v2.keep hl').get j0 hjl;obtain ⟨⟨_,_,g0⟩,t0,⟨_,_,g1⟩,t1,⟨_,_,g2⟩,t2,⟨_,_,g3⟩,t3,⟨_,_,g4⟩,t4,⟨_,_,g5⟩,t5,⟨_,_,g6⟩,-⟩:=hc';have x20:EF w2 (w2.alloc (.cells #[.string d.doc,.string d.name,.string n5,.slice a5 l5 c5,.bool nn5,.slice a6 l6 c6,.slice a7 l7 c7] 125)):=(Ext.refl w2).alloc _;have B20:=B2.ext x20 id;have y20:=hy.then x20;have key:∀ w' y v m n h b,EF w6 w'->Blk w' w6.heap.size 96 (gv k r s t u y v m n h b)->a_v (.string y)->K w':=by
    intro w' y v m n h b e B sy;refine hK w' ?_;rw [a_a j0 (by omega)];exact next j0 hjl ⟨e,y,v,m,n,h,b,B,sy⟩
   refine ⟨p',hp',⟨j0,hjl⟩,_,g0.cell,_,g1.cell,_,g2.cell,_,_,_,g3.cell,_,g4.cell,_,_,_,g5.cell,_,_,_,g6.cell,trivial,trivial,fun he=>⟨B20.off (j:=3) (n:=3) (q:=fun T=>Nat.beq 167 T||(Nat.beq 125 T||false)) (by simp) rfl,trivial,(((B20.set 3 (.string n5)).set 4 (.slice a5 l5 c5)).set 5 (.bool nn5)).off (j:=6) (n:=1) (q:=fun T=>Nat.beq 167 T||(Nat.beq 125 T||false)) (by simp) rfl,trivial,?_⟩,fun he=>?_⟩
   ·exact key _ n5 a5 l5 c5 nn5 true ((((y20.setCell (.inr hg) _).setCell (.inr hg) _).setCell (.inr hg) _).setCell (.inr hg) _) ((((B20.set 3 (.string n5)).set 4 (.slice a5 l5 c5)).set 5 (.bool nn5)).set 6 (.bool true)) t2
   ·exact key _ y v m n h b y20 B20 hsy
  ·obtain ⟨A2,C2,w23,r23,ac23,k23⟩:=((ac.step (x6.then hy)).one appGv RGw.len (x:=x.v) (cs:=gv k r s t u y v m n h b) ⟨k,r,s,t,u,y,v,m,n,h,b,rfl,hrv,hs2⟩ (fun z hz=>by
    simp only [gv,mc_,nn_,or_false] at hz;rcases hz with rfl|rfl|rfl|rfl|rfl|rfl|rfl<;>first|assumption|rfl) (by simp only [List.length_map,List.length_take];omega))
   refine ⟨_,(B2.at (j:=0) rfl).cell,_,(B2.at (j:=1) rfl).cell,_,_,_,(B2.at (j:=2) rfl).cell,_,(B2.at (j:=3) rfl).cell,_,_,_,(B2.at (j:=4) rfl).cell,_,(B2.at (j:=5) rfl).cell,_,(B2.at (j:=6) rfl).cell,trivial,A2,L+1,C2,w23,r23,⟨k23 _ (by decide),trivial⟩,?_⟩;rw [a_a h0 (by omega)];refine next h0 hlt ?_
   rw [take_snoc' h0 hxs,List.map_append];exact ac23
 ·have hle:=odf hge;rw [tl_ (by omega)] at ac;exact ⟨A,L,C,rfl,ac⟩
def gvD (l:List Dir):List Val:=l.flatMap fun d=>d.args.map Argm.v
def gvO:Sel->List Val
 | .mk _ _ _ _ args dirs _=>args.map Argm.v++gvD dirs
mutual
def gvS:Sel->List Val
 | .mk _ _ _ _ args dirs kids=>(args.map Argm.v++gvD dirs)++gvL kids
def gvL:List Sel->List Val
 | []=>[]
 | s::l=>gvS s++gvL l
end
mutual
theorem r_Y (types:List Def):∀ (u:BA) (s:Sel),(atS types u s).flatMap (fun x=>gvO x.1)=gvS s
 | u,.mk k al n on args dirs kids=>by
  rw [atS,List.flatMap_cons,r_A types _ kids,gvS,gvO]
theorem r_A (types:List Def):∀ (u:BA) (l:List Sel),(atL types u l).flatMap (fun x=>gvO x.1)=gvL l
 | _,[]=>rfl
 | u,s::l=>by rw [atL,List.flatMap_append,r_Y types u s,r_A types u l,gvL]
end
theorem r_z:∀ l:List Argm,valsW (l.map Argm.v)<=argsW l
 | []=>Nat.le_refl _
 | a::l=>by
  have:=r_z l;simp only [valsW,argsW,List.map_cons,List.sum_cons,argW] at this ⊢;omega
theorem q_3 (a b:List Val):valsW (a++b)=valsW a+valsW b:=by simp [valsW]
theorem q_6:∀ l:List Val,l.length<=valsW l
 | []=>Nat.le_refl _
 | .mk k r kids::l=>by
  have:=q_6 l;simp only [valsW,List.map_cons,List.sum_cons,valW,List.length_cons] at this ⊢;omega
theorem r_l:∀ l:List Dir,valsW (gvD l)<=dirsW l
 | []=>Nat.le_refl _
 | d::l=>by
  have h1:=r_l l;have h2:=r_z d.args;rw [show gvD (d::l)=d.args.map Argm.v++gvD l by simp [gvD],q_3];simp only [dirsW,List.map_cons,List.sum_cons,dirW] at h1 ⊢;omega
mutual
theorem wv_S:∀ s:Sel,valsW (gvS s)<=selW s
 | .mk k al n on args dirs kids=>by
  have h1:=r_z args;have h2:=r_l dirs;have h3:=wv_L kids;rw [gvS,q_3,q_3,selW];omega
theorem wv_L:∀ l:List Sel,valsW (gvL l)<=selsW l
 | []=>Nat.le_refl _
 | s::l=>by
  have h1:=wv_S s;have h2:=wv_L l;rw [gvL,q_3,selsW];omega
end
def gvF (f:Frag):List Val:=gvD f.dirs++gvL f.kids
def gvN (frags:List Frag)(n:BA):List Val:=match a_h Frag.name frags n with
 | none=>[]
 | some f=>gvF f
section
variable {k:Nat} {A4:OA} {L4 C4:Nat} {A:OA} {L C:Nat} {A3:OA} {L3 C3:Nat} {types:List Def} {dirs:List DirDef}
theorem r_a {w0 w:World}{a:OA}{l c:Nat}{ds:List Dir}(hw0:EF w0 w)(hDB:DB.B<=w.heap.size)(hB:Blk w k 79 [.slice A4 L4 C4,.slice A L C,.slice A3 L3 C3])(hD:a_Y w A3 L3 C3 dirs)(few:dirs.length<=12)(hl:RDirs w0 a l c ds)(hs:valsW (gvD ds)<=2097152):
  CP 181 #[.pointer (some (adr k)),.slice a l c] w fun e w'=>∃ A L C,e=.returned (.slice A L C)/\Acc w w' 96 7 (RGw w') A L C (gvD ds):=by
 obtain ⟨e1,e3⟩:=hl.len;have hlen:=lt_ (q_6 _) hs;refine r_n (some (adr k)) a l c w _ ⟨fun A L C i w1=>0<=i/\i<=l/\Acc w w1 96 7 (RGw w1) A L C (gvD (ds.take i.toNat)),fun _ _ _ i _=>((l:Int)-i).toNat,⟨by omega,by omega,Acc.nil (Ext.refl w)⟩,?_⟩;rintro A1 L1 C1 i w1 ⟨h0,hi,ac⟩;refine ⟨fun hlt=>?_,fun hge=>?_⟩
 ·have hlt:=odt hlt;obtain ⟨p,x,hp,hxs,cs,hc,a2,l2,c2,rfl,hargs⟩:=hl.get h0 hlt;obtain ⟨⟨_,_,hc0⟩,hs0,⟨_,_,hc1⟩,-⟩:=hc;have x1:=hw0.then ac.1;have hsn:=q_p (fun d:Dir=>d.args.map Argm.v) h0 hxs;have hle:=q_q (fun d:Dir=>d.args.map Argm.v) ds (i+1).toNat;rw [hsn,la_] at hle;have hle:(gvD (ds.take i.toNat)).length+(x.args.map Argm.v).length<=(gvD ds).length:=hle;have x12:EF w1 (w1.alloc (.cells #[.string x.name,.slice a2 l2 c2] 103)):=(Ext.refl w1).alloc _;have y12:=ac.1.then x12;refine ⟨p,hp,⟨h0,hlt⟩,_,x1.cell hc0 id,_,_,_,x1.cell hc1 id,trivial,trivial,?_⟩;refine (q_m (n:=x.name) (lt_ hDB y12.size) (hB.ext y12 id) (hD.keep y12.keep) few).mono ?_;rintro _ w14 ⟨cs14,rfl,⟨b0,m0,d0,b1,m1,d1,rfl,hdefs,-⟩,x14⟩;have z22:EF w14 (w14.alloc (.cells #[.string (dirG dirs x.name).1.doc,.string (dirG dirs x.name).1.name,.slice b0 m0 d0,.slice b1 m1 d1,.bool (dirG dirs x.name).1.rep] 105)):=(Ext.refl w14).alloc _;have x22:=(x12.then x14).then z22;refine ⟨_,_,_,_,_,_,_,_,_,_,rfl,⟨x14.keepT _,trivial⟩,trivial,trivial,?_⟩;refine (q_G (w0:=w1) x22 (hargs.keep x1.keep) (hdefs.keep z22.keep)).mono ?_;rintro _ w24 ⟨A2,L2,C2,rfl,ac24⟩;have y24:=x22.then ac24.1;have hL2:=ac24.2.1;obtain ⟨A3',C3',w27,r27,ac27,-, k27⟩:=((ac.step y24).mono fun x cs=>RGw.keep y24.keep).moreG hDB ((ac24.mono fun x cs=>RGw.keep y24.keep).sl (by omega) (by omega)) (by omega);refine ⟨A2,L2,C2,rfl,⟨ac24.1.keepT _,ac24.1.keepT _,trivial⟩,A3',L1+L2,C3',w27,r27,⟨k27 _ (by decide),k27 _ (by decide),trivial⟩,?_⟩;rw [a_a h0 (by omega)];refine next h0 hlt ?_
  rw [show gvD (ds.take (i+1).toNat)=gvD (ds.take i.toNat)++x.args.map Argm.v from hsn];exact ac27
 ·have hle:=odf hge;rw [tl_ (by omega)] at ac;exact ⟨A1,L1,C1,rfl,ac⟩
abbrev vB (l:List (Sel × BA)):Prop:=valsW (l.flatMap fun x=>gvO x.1)<=2097152
theorem r_W (l m:List (Sel × BA))(h:vB (l++m)):vB l:=by
 simp only [vB,List.flatMap_append,q_3] at h ⊢;omega
theorem r_S {bz ob:Nat}{w:World}{A:OA}{L C:Nat}{cells:List Value}{xs ys:List Val}{a:OA}{l c:Nat}(hDB:DB.B<=bz)(ho:bz<=ob)(hb:bz<=w.heap.size)(h5:Blk w ob 90 [.slice A L C])(h7:Own bz w 96 7 A L C cells)(h8:Flat 7 (RGw w) xs cells)(hr:SlL w 96 7 (RGw w) a l c ys)(h2:xs.length+ys.length<=16777216):
  ∃ (A':OA) (C':Nat) (w':World),(Go.builtin .append #[90,90] 90 #[false,false] #[.slice A L C,.slice a l c]).run Tryz.prog w=.ok (.value (.slice A' (L+l) C')) w'/\(∀ T',T'≠96->KeepT T' w w')/\
   (∃ (cs:Array Value) (T:TypeId),objAt w' ob=some (.cells cs T (0,0))/\(none:Option Nat)=none/\0+1<=cs.size/\(Nat.beq 67 T||(Nat.beq 70 T||false))=false)/\
   SSt (fun b=>bz<=b) w (w'.setCell (adr ob) (.slice A' (L+l) C'))/\(∀ b T0 vs,Blk w b T0 vs->T0≠96->b≠ob->Blk (w'.setCell (adr ob) (.slice A' (L+l) C')) b T0 vs)/\Blk (w'.setCell (adr ob) (.slice A' (L+l) C')) ob 90 [.slice A' (L+l) C']/\
   ∃ cells',Own bz (w'.setCell (adr ob) (.slice A' (L+l) C')) 96 7 A' (L+l) C' cells'/\Flat 7 (RGw (w'.setCell (adr ob) (.slice A' (L+l) C'))) (xs++ys) cells':=by
 obtain ⟨A',C',w',r,⟨cells',o',f'⟩,hx,hk,hk'⟩:=r_I hDB hb h7 h8 hr h2;have B':=h5.ext hx (r_L h7 h5 (by decide));have hs:Ext (fun b=>b=ob) w' (w'.setCell (adr ob) (.slice A' (L+l) C')):=Ext.setCell (X:=fun b=>b=ob) (Ext.refl _) (a:=⟨ob,0,none⟩) (.inl rfl) _;have s2:SSt (fun b=>bz<=b) w' (w'.setCell (adr ob) (.slice A' (L+l) C')):=SSt.cell B' (by decide) (by decide) (lt_ hDB ho) ho hs;have s1:SSt (fun b=>bz<=b) w w':=⟨hx.mono fun b _ hb=>(h7.base b hb).1,hk,fun T hT=>hk' T (by rintro rfl;exact absurd hT (by decide))⟩;exact ⟨A',C',w',r,hk',B'.off (j:=0) (n:=1) (q:=fun T=>(Nat.beq 67 T||(Nat.beq 70 T||false))) (by simp) rfl,s1.trans s2,fun b T0 vs hB hT hne=>(hB.ext hx (r_L h7 hB hT)).ext hs hne,B'.set 0 _,cells',o'.keep hs fun b hb e=>r_L o' B' (by decide) (e▸hb),f'.mono fun x _ cs=>RGw.keep s2.keep⟩
def PVo (k:Nat)(A4:OA)(L4 C4:Nat)(A:OA)(L C:Nat)(A3:OA)(L3 C3:Nat)(types:List Def)(dirs:List DirDef)(bz wb ob:Nat)(l:List (Sel × BA))(w:World):Prop:=
 bz<=w.heap.size/\Blk w wb 33 [.pointer (some (adr k))]/\Blk w k 79 [.slice A4 L4 C4,.slice A L C,.slice A3 L3 C3]/\RDefs w A4 L4 C4 types/\a_Y w A3 L3 C3 dirs/\∃ A' L' C',Blk w ob 90 [.slice A' L' C']/\∃ cells,Own bz w 96 7 A' L' C' cells/\Flat 7 (RGw w) (l.flatMap fun x=>gvO x.1) cells
theorem r_4 {bz wb ob:Nat}(hDB:DB.B<=bz)(hk:k<bz)(ho:bz<=ob)(hne:wb≠ob)(few:dirs.length<=12):CloB vB 200 [.pointer (some (adr wb)),.pointer (some (adr ob))] (fun b=>bz<=b) (PVo k A4 L4 C4 A L C A3 L3 C3 types dirs bz wb ob):=by
 refine ⟨⟨_,Tryz.func200,by kernel_rfl⟩,fun l w w' ⟨p0,p1,p2,p3,p4,A',L',C',p5,cells,p7,p8⟩ hx=>⟨lt_ p0 hx.size,p1.ext hx id,p2.ext hx id,p3.keep hx.keep,p4.keep hx.keep,A',L',C',p5.ext hx id,cells,p7.keep hx fun _ _=>id,p8.mono fun x _ cs=>RGw.keep hx.keep⟩,?_⟩;rintro l w ⟨k',al,n,on,args,ds,kids⟩ u cs ⟨p0,p1,p2,p3,p4,A',L',C',p5,cells,p7,p8⟩ hv hsm hok hu hBd;obtain ⟨a1,l1,c1,a2,l2,c2,a3,l3,c3,rfl,hv1,hv2,hv3⟩:=c_w.1 hv;have hn:n.size<=4194304:=hsm (.string n) (by simp);have hbd:(l.flatMap fun x=>gvO x.1).length+((args.map Argm.v).length+(gvD ds).length)<=2097152/\valsW (gvD ds)<=2097152:=by
  rw [vB,List.flatMap_append,List.flatMap_cons,List.flatMap_nil,List.append_nil,q_3,show gvO (Sel.mk k' al n on args ds kids,u).1=args.map Argm.v++gvD ds from rfl,q_3] at hBd;have h1:=q_6 (l.flatMap fun x=>gvO x.1);have h2:=q_6 (args.map Argm.v);have h3:=q_6 (gvD ds);omega
 have x11:EF w (w.alloc (.cells #[.int .i64 k',.string al,.string n,.string on,.slice a1 l1 c1,.slice a2 l2 c2,.slice a3 l3 c3] 67)):=(Ext.refl w).alloc _;refine r_g k' al n on a1 l1 c1 a2 l2 c2 a3 l3 c3 u (adr wb) (adr ob) w _ ⟨trivial,some (adr k),((p1.ext x11 id).at (j:=0) rfl).cell,?_⟩;refine (e_p (types:=types) hu hn (p2.ext x11 id) (p3.keep x11.keep)).mono ?_;rintro _ w14 ⟨cs14,rfl,⟨f0,fl0,fc0,f1,fl1,fc1,tn,f2,fl2,fc2,nn,f3,fl3,fc3,rfl,hdefs,-⟩,-, x14⟩;have z25:EF w14 (w14.alloc (.cells #[.string (b_K types u n).1.doc,.string (b_K types u n).1.name,.slice f0 fl0 fc0,.slice f1 fl1 fc1,.string tn,.slice f2 fl2 fc2,.bool nn,.slice f3 fl3 fc3] 70)):=(Ext.refl w14).alloc _;refine ⟨_,_,_,_,_,_,_,_,_,_,_,_,_,_,_,_,_,rfl,⟨x14.keepT _,trivial⟩,trivial,trivial,fun w26 e26=>?_⟩;have x26:EF w14 w26:=by rw [e26];exact z25.drew
 have y26:=(x11.then x14).then x26;have c26:=((p5.ext y26 id).at (j:=0) rfl).cell;refine ⟨A',L',C',c26,?_⟩;refine (q_G (w0:=w14) x26 (hv1.keep (x11.then x14).keep) (hdefs.keep x26.keep)).mono ?_;rintro _ w29 ⟨A2,L2,C2,rfl,ac29⟩;have y29:=y26.then ac29.1;have z29:=x26.then ac29.1;obtain ⟨A31,C31,w32,r32,k32,off32,s33,n33,B33,cells33,o33,fl33⟩:=r_S hDB ho (lt_ p0 y29.size) (p5.ext y29 id) (p7.keep y29 fun _ _=>id) (p8.mono fun x _ cs=>RGw.keep y29.keep) ((ac29.mono fun x cs=>RGw.keep z29.keep).sl (by omega) (by omega)) (by omega);refine ⟨A2,L2,C2,rfl,⟨ac29.1.keepT _,ac29.1.keepT _,trivial⟩,⟨ac29.1.cell_eq id c26,trivial⟩,A31,L'+L2,C31,w32,r32,⟨k32 _ (by decide),k32 _ (by decide),trivial⟩,trivial,off32,trivial,?_⟩;refine ⟨trivial,fun w34 e34=>?_⟩;have x34:EF (w32.setCell (adr ob) (.slice A31 (L'+L2) C31)) w34:=by rw [e34];exact (Ext.refl _).drew
 clear e34;generalize w32.setCell (adr ob) (.slice A31 (L'+L2) C31)=w33 at *;have v34:SSt (fun b=>bz<=b) w w34:=((SSt.of0 y29).trans s33).trans (SSt.of0 x34);have hkX:¬ bz<=k:=by omega
 have z34:=v34.ext.size;have B34:=B33.ext x34 id;have c34:=(B34.at (j:=0) rfl).cell;have p1':Blk w34 wb 33 [.pointer (some (adr k))]:=(n33 wb _ _ (p1.ext y29 id) (by decide) hne).ext x34 id;refine ⟨A31,L'+L2,C31,c34,some (adr k),(p1'.at (j:=0) rfl).cell,?_⟩;refine (r_a (w0:=w34) (Ext.refl w34) (lt_ hDB (lt_ p0 z34)) (p2.ext v34.ext hkX) (p4.keep v34.keep) few (hv2.keep v34.keep) hbd.2).mono ?_;rintro _ w38 ⟨A39,L39,C39,rfl,ac38⟩;have y38:=x34.then ac38.1;obtain ⟨A40,C40,w41,r41,k41,off41,s42,n42,B42,cells42,o42,fl42⟩:=r_S hDB ho (lt_ p0 (lt_ z34 ac38.1.size)) (B34.ext ac38.1 id) (o33.keep y38 fun _ _=>id) (fl33.mono fun x _ cs=>RGw.keep y38.keep) (ac38.sl (by omega) (by omega)) (by rw [la_];omega);refine ⟨A39,L39,C39,rfl,⟨ac38.1.keepT _,ac38.1.keepT _,trivial⟩,⟨ac38.1.cell_eq id c34,trivial⟩,A40,L'+L2+L39,C40,w41,r41,⟨k41 _ (by decide),k41 _ (by decide),trivial⟩,trivial,off41,trivial,?_⟩;have v42:=(v34.trans (SSt.of0 ac38.1)).trans s42;refine ⟨trivial,rfl,v42,lt_ p0 v42.ext.size,n42 wb _ _ (p1'.ext ac38.1 id) (by decide) hne,p2.ext v42.ext hkX,p3.keep v42.keep,p4.keep v42.keep,A40,L'+L2+L39,C40,B42,cells42,o42,?_⟩;rw [List.flatMap_append,List.flatMap_cons,List.flatMap_nil,List.append_nil,gvO,<- List.append_assoc];exact fl42
theorem r_b {a:OA}{l c:Nat}{u:BA}{xs:List Sel}{w:World}(hDB:DB.B<=w.heap.size)(hB:Blk w k 79 [.slice A4 L4 C4,.slice A L C,.slice A3 L3 C3])(hT:RDefs w A4 L4 C4 types)(hD:a_Y w A3 L3 C3 dirs)(few:dirs.length<=12)(hl:RSels w a l c xs)(hok:a_z xs)(hu:u.size<=4194304)(hs:valsW (gvL xs)<=2097152):
  CP 182 #[.pointer (some (adr k)),.slice a l c,.string u] w fun e w'=>∃ A L C,e=.returned (.slice A L C)/\Acc w w' 96 7 (RGw w') A L C (gvL xs):=by
 have B4:Blk (w.alloc (.cells #[.pointer (some (adr k))] 33)) w.heap.size 33 [.pointer (some (adr k))]:=Blk.made w 33 [.pointer (some (adr k))];have x4:EF w (w.alloc (.cells #[.pointer (some (adr k))] 33)):=(Ext.refl w).alloc _;have hk:=hB.lt;refine r_k (some (adr k)) a l c u w _ ⟨trivial,?_⟩;show True/\_;generalize w.alloc (.cells #[.pointer (some (adr k))] 33)=w4 at *;have B5:Blk (w4.alloc (.cells #[.slice none 0 0] 90)) w4.heap.size 90 [.slice none 0 0]:=Blk.made w4 90 [.slice none 0 0];have x5:EF w4 (w4.alloc (.cells #[.slice none 0 0] 90)):=(Ext.refl w4).alloc _;refine ⟨trivial,?_⟩;show ∃ _,_;generalize w4.alloc (.cells #[.slice none 0 0] 90)=w5 at *;have y5:=x4.then x5;have hz4:=x4.size;have hl4:=B4.lt;have hne:w.heap.size≠w4.heap.size:=by omega
 refine ⟨some (adr k),((B4.ext x5 id).at (j:=0) rfl).cell,?_⟩;refine (f_f (X:=fun b=>w.heap.size<=b) (P:=PVo k A4 L4 C4 A L C A3 L3 C3 types dirs w.heap.size w.heap.size w4.heap.size) r_W (by omega) (r_4 hDB hk hz4 hne few) xs a l c u w5 [] (hB.ext y5 id) (hT.keep y5.keep) (hl.keep y5.keep) hok hu ⟨y5.size,B4.ext x5 id,hB.ext y5 id,hT.keep y5.keep,hD.keep y5.keep,none,0,0,B5,[],Own.nil ..,.nil⟩ (by rw [vB,List.nil_append,r_A];exact hs)).mono ?_;rintro _ w8 ⟨rfl,s8,-, -, -, -, -, A',L',C',B8,cells,o8,f8⟩;rw [List.nil_append,r_A] at f8;refine ⟨rfl,trivial,A',L',C',(B8.at (j:=0) rfl).cell,A',L',C',rfl,(y5.toM _).trans s8.ext (fun _ _ e=>e) |>.mono fun b hb e=>by omega,?_,cells,o8,f8⟩;have h1:=o8.len.1;have h2:=f8.len;omega
theorem r_1 (l:List Sel):(spL l).length<=selsW l:=lt_ (i_R l) (l_h l)
theorem r_D {w:World}{a:OA}{l c:Nat}{frags:List Frag}(h:a_X w a l c frags){f:Frag}(hf:f∈frags):f.on.size<=4194304:=by
 obtain ⟨j,hj⟩:=List.mem_iff_getElem?.1 hf;obtain ⟨p,-, cs,hc,_,_,_,_,_,_,rfl,-⟩:=h.2.2.2 j f hj;exact hc.2.2.2.1
theorem r_B {α:Type}(f:α->List Val):∀ l:List α,valsW (l.flatMap f)=(l.map fun x=>valsW (f x)).sum
 | []=>rfl
 | x::l=>by rw [List.flatMap_cons,q_3,r_B f l,List.map_cons,List.sum_cons]
theorem sum_nil {α:Type}{f:α->Nat}:∀ {l:List α},(∀ x∈l,f x=0)->(l.map f).sum=0
 | [],_=>rfl
 | x::l,h=>by rw [List.map_cons,List.sum_cons,h x (by simp),sum_nil fun y hy=>h y (by simp [hy])]
theorem r_N (frags:List Frag):∀ xs:List BA,xs.Nodup->(xs.map fun n=>valsW (gvN frags n)).sum<=(frags.map fragW).sum:=by
 induction frags with
 | nil=>
  intro xs _;rw [sum_nil (f:=fun n=>valsW (gvN [] n)) fun _ _=>rfl];exact Nat.zero_le _
 | cons f fs ih=>
  have hf:valsW (gvF f)<=fragW f:=by
   have h1:=r_l f.dirs;have h2:=wv_L f.kids;rw [gvF,q_3,fragW];omega
  have he:∀ n,n≠f.name->gvN (f::fs) n=gvN fs n:=fun n hn=>by
   rw [gvN,gvN,a_h,a_h,List.find?_cons_of_neg (by simpa using fun e=>hn e.symm)]
  have he':gvN (f::fs) f.name=gvF f:=by
   rw [gvN,a_h,List.find?_cons_of_pos (by simp)]
  have key:∀ xs:List BA,xs.Nodup->(xs.map fun n=>valsW (gvN (f::fs) n)).sum<=fragW f+((xs.filter fun n=>decide (n≠f.name)).map fun n=>valsW (gvN fs n)).sum:=by
   intro xs;induction xs with
   | nil=>intro _;simp
   | cons n xs ihx=>
    intro hnd;rw [List.nodup_cons] at hnd;rw [List.map_cons,List.sum_cons];by_cases hn:n=f.name
    ·subst hn;have hfl:(xs.filter fun n=>decide (n≠f.name))=xs:=List.filter_eq_self.2 fun m hm=>by
      simp only [decide_eq_true_eq];exact fun e=>hnd.1 (e▸hm)
     have hsame:(xs.map fun n=>valsW (gvN (f::fs) n))=xs.map fun n=>valsW (gvN fs n):=List.map_congr_left fun m hm=>by
      rw [he m fun e=>hnd.1 (e▸hm)]
     rw [List.filter_cons,if_neg (by simp),hfl,he',hsame];omega
    ·have:=ihx hnd.2;rw [List.filter_cons,if_pos (by simpa using hn),List.map_cons,List.sum_cons,he n hn];omega
  intro xs hnd;have h1:=key xs hnd;have h2:=ih (xs.filter fun n=>decide (n≠f.name)) (hnd.filter _);rw [List.map_cons,List.sum_cons];omega
theorem RStrs.mono {w w':World}(h:Keep w w'){a:OA}{l c:Nat}{xs:List BA}(hx:RStrs w a l c xs):RStrs w' a l c xs:=hx.keep h
theorem r_i {roots:List RootD}{a:OA}{l c:Nat}{a':OA}{l' c':Nat}{a1:OA}{l1 c1:Nat}{a2:OA}{l2 c2:Nat}{a3:OA}{l3 c3:Nat}{o:OpD}{frags:List Frag}{w:World}(hDB:DB.B<=w.heap.size)(hB:Blk w k 79 [.slice A4 L4 C4,.slice A L C,.slice A3 L3 C3])(hT:RDefs w A4 L4 C4 types)(hR:b_w w A L C roots)(hD:a_Y w A3 L3 C3 dirs)(few:dirs.length<=12)
  (h2:RDirs w a2 l2 c2 o.dirs) (h3:RSels w a3 l3 c3 o.kids) (ok1:a_z o.kids) (hl':a_X w a' l' c' frags) (ok2:∀ x∈frags,b_j x) (hs:opW o+(frags.map fragW).sum<=2097152):
  CP 132 #[.pointer (some (adr k)),.agg #[.slice a l c,.slice a' l' c'],.agg #[.string o.kind,.string o.name,.slice a1 l1 c1,.slice a2 l2 c2,.slice a3 l3 c3]] w fun e w'=>∃ (A:OA) (L C:Nat) (xs:List BA),e=.returned (.slice A L C)/\xs.Nodup/\(∀ n,n∈xs↔Rch frags o.kids n)/\valsW ((gvD o.dirs++gvL o.kids)++xs.flatMap (gvN frags))<=2097152/\Acc w w' 96 7 (RGw w') A L C ((gvD o.dirs++gvL o.kids)++xs.flatMap (gvN frags)):=by
 have hwd:=r_l o.dirs;have hwl:=wv_L o.kids;have hvd:=q_6 (gvD o.dirs);have hvl:=q_6 (gvL o.kids);have hsp:(spL o.kids).length<=2097152/\(frags.map fun f=>(spL f.kids).length).sum<=2097152:=by
  have e1:∀ f:Frag,(spL f.kids).length<=fragW f:=fun f=>by
   have:=r_1 f.kids;rw [fragW];omega
  have:=r_1 o.kids;have:=c_0 (f:=fun f:Frag=>(spL f.kids).length) (g:=fragW) (xs:=frags) fun f _=>e1 f;simp only [opW] at hs;omega
 have hof:∀ f∈frags,valsW (gvD f.dirs)<=2097152/\valsW (gvL f.kids)<=2097152:=fun f hf=>by
  have h1:=r_l f.dirs;have h2:=wv_L f.kids;have h3:=j_s fragW hf;have h4:fragW f=1+dirsW f.dirs+selsW f.kids:=rfl;omega
 simp only [opW] at hs;have x9:EF w (w.alloc (.cells #[.slice a l c,.slice a' l' c'] 30)):=(Ext.refl w).alloc _;refine r_j (some (adr k)) a l c a' l' c' o.kind o.name a1 l1 c1 a2 l2 c2 a3 l3 c3 w _ ⟨trivial,trivial,fun w11 e11=>?_⟩;have x11:EF w w11:=by rw [e11];exact (x9.alloc _).drew
 refine (r_a (w0:=w11) (Ext.refl w11) (lt_ hDB x11.size) (hB.ext x11 id) (hD.keep x11.keep) few (h2.keep x11.keep) (by omega)).mono ?_;rintro _ w13 ⟨A14,L14,C14,rfl,ac13⟩;have y13:=x11.then ac13.1;refine ⟨A14,L14,C14,rfl,⟨ac13.1.keepT _,ac13.1.keepT _,trivial⟩,⟨rfl,rfl,trivial⟩,?_⟩;refine (a_m (p:=adr k) (op:=o.kind) ((hB.ext y13 id).at (j:=1) rfl) (hR.keep y13.keep)).mono ?_;rintro _ w16 ⟨rfl,x16⟩;have y16:=y13.then x16;refine ⟨_,rfl,⟨x16.keepT _,x16.keepT _,trivial⟩,⟨rfl,trivial⟩,?_⟩;refine (r_b (lt_ hDB y16.size) (hB.ext y16 id) (hT.keep y16.keep) (hD.keep y16.keep) few (h3.keep y16.keep) ok1 (l_U hR o.kind) (by omega)).mono ?_;rintro _ w19 ⟨A20,L20,C20,rfl,ac19⟩;have y19:=y16.then ac19.1;have x1619:=x16.then ac19.1;obtain ⟨A21,C21,w22,r22,ac22,kp22,k22⟩:=((ac13.step x1619).mono fun x cs=>RGw.keep x1619.keep).moreG (lt_ hDB x11.size) (ac19.sl (by omega) (by omega)) (by omega);have y22:=x11.then ac22.1;refine ⟨A20,L20,C20,rfl,⟨ac19.1.keepT _,ac19.1.keepT _,trivial⟩,trivial,A21,L14+L20,C21,w22,r22,⟨k22 _ (by decide),k22 _ (by decide),trivial⟩,trivial,trivial,?_⟩;refine (l_6 (hl'.keep y22.keep) (h3.keep y22.keep) ok1 ok2 hsp.1 hsp.2).mono ?_;rintro _ w24 ⟨A25,L25,C25,xs,rfl,x24,q24,hxs,hlen,hnd⟩;have hfl:=hl'.len;have hL25:=q24.1;have hS24:RStrs w24 A25 L25 C25 xs:=q24.sl (by omega);have hsum:∀ ys:List BA,ys.Nodup->valsW (ys.flatMap (gvN frags))<=(frags.map fragW).sum:=fun ys hy=>by
  rw [r_B];exact r_N frags ys hy
 have hall:=hsum xs hnd;have htot:valsW ((gvD o.dirs++gvL o.kids)++xs.flatMap (gvN frags))<=2097152:=by
  rw [q_3,q_3];omega
 have hn2:=q_6 ((gvD o.dirs++gvL o.kids)++xs.flatMap (gvN frags));refine ⟨A25,L25,C25,rfl,⟨x24.keepT _,x24.keepT _,trivial⟩,fun A L C i w1=>0<=i/\i<=L25/\Keep w24 w1/\Acc w11 w1 96 7 (RGw w1) A L C ((gvD o.dirs++gvL o.kids)++(xs.take i.toNat).flatMap (gvN frags)),fun _ _ _ i _=>((L25:Int)-i).toNat,⟨by omega,by omega,Keep.refl w24,by simpa using (ac22.step x24).mono fun x cs=>RGw.keep x24.keep⟩,?_⟩;rintro A1 L1 C1 i w1 ⟨h0,hi,hkp,ac⟩;refine ⟨fun hlt=>?_,fun hge=>?_⟩
 ·have hlt:=odt hlt;obtain ⟨p,n,hp,hns,cs,hc,rfl⟩:=(hS24.keep hkp).get h0 hlt;have x1:=x11.then ac.1;have hnm:=mg_ hns;refine ⟨p,hp,⟨h0,hlt⟩,n,hc.1.choose_spec.2.cell,?_⟩;refine (n_R n x1 hl').mono ?_;rintro _ w34 ⟨s1,s2,b1,m1,d1,b2,m2,d2,b,rfl,x34,hb,hbt,hbf⟩;obtain ⟨f,hf⟩:=k_3.1 (show isFr frags n=true by
   cases (hxs n).1 hnm with
   | base _ k=>exact k
   | step _ _ _ k=>exact k)
  obtain ⟨hfm,hfn⟩:=a_U hf;obtain rfl:b=true:=hb.2 ⟨f,hfm,hfn⟩;obtain ⟨f',hf',rfl,rfl,hfd,hfk⟩:=hbt rfl;obtain rfl:f=f':=Option.some.inj (hf.symm.trans hf');have hgn:gvN frags n=gvF f:=by rw [gvN,hf]
  have hsn:=q_p (gvN frags) h0 hns;have hle:=q_q (gvN frags) xs (i+1).toNat;rw [hsn,la_,hgn] at hle;simp only [la_] at hn2 hle;have hgf:(gvF f).length=(gvD f.dirs).length+(gvL f.kids).length:=by rw [gvF,la_]
  obtain ⟨hw1,hw2⟩:=hof f hfm;have y41:EF w1 (w34.alloc (.cells #[.string f.name,.string f.on,.slice b1 m1 d1,.slice b2 m2 d2] 63)):=x34.alloc _;have x41:=x1.then y41;refine ⟨_,_,b1,m1,d1,b2,m2,d2,true,rfl,⟨x34.keepT _,x34.keepT _,trivial⟩,trivial,trivial,?_⟩;refine (r_a (w0:=w) x41 (lt_ hDB x41.size) (hB.ext x41 id) (hD.keep x41.keep) few hfd hw1).mono ?_;rintro _ w43 ⟨A44,L44,C44,rfl,ac43⟩;have y43:=y41.then ac43.1;obtain ⟨A45,C45,w46,r46,ac46,kp46,k46⟩:=((ac.step y43).mono fun x cs=>RGw.keep y43.keep).moreG (lt_ hDB x11.size) (ac43.sl (by omega) (by omega)) (by rw [la_,la_];omega);refine ⟨A44,L44,C44,rfl,⟨ac43.1.keepT _,ac43.1.keepT _,ac43.1.keepT _,trivial⟩,A45,L1+L44,C45,w46,r46,⟨k46 _ (by decide),k46 _ (by decide),k46 _ (by decide),trivial⟩,?_⟩;have x46:=x11.then ac46.1;refine (r_b (lt_ hDB x46.size) (hB.ext x46 id) (hT.keep x46.keep) (hD.keep x46.keep) few (hfk.keep x46.keep) (ok2 f hfm).2.1 (r_D hl' hfm) hw2).mono ?_;rintro _ w48 ⟨A49,L49,C49,rfl,ac48⟩;obtain ⟨A50,C50,w51,r51,ac51,kp51,k51⟩:=((ac46.step ac48.1).mono fun x cs=>RGw.keep ac48.1.keep).moreG (lt_ hDB x11.size) (ac48.sl (by omega) (by omega)) (by rw [la_,la_,la_];omega);refine ⟨A49,L49,C49,rfl,⟨ac48.1.keepT _,ac48.1.keepT _,ac48.1.keepT _,trivial⟩,A50,L1+L44+L49,C50,w51,r51,⟨k51 _ (by decide),k51 _ (by decide),k51 _ (by decide),trivial⟩,?_⟩;rw [a_a h0 (by omega)];refine next h0 hlt ⟨((hkp.trans y43.keep).trans kp46).trans (ac48.1.keep.trans kp51),?_⟩
  rw [hsn,hgn,gvF];simpa [List.append_assoc] using ac51
 ·have hle:=odf hge;rw [tl_ (by omega)] at ac;obtain ⟨g1,g2,cells,g3,g4⟩:=ac;exact ⟨A1,L1,C1,xs,rfl,hnd,hxs,htot,x11.then g1,g2,cells,Own.le g3 x11.size,g4⟩
def r_o (frags:List Frag)(o:OpD)(n:BA):Prop:=n∈(gvD o.dirs++gvL o.kids).flatMap vrV∨∃ m f,Rch frags o.kids m/\a_h Frag.name frags m=some f/\n∈(gvF f).flatMap vrV
theorem r_Q {frags:List Frag}{o:OpD}{xs:List BA}(h:∀ n,n∈xs↔Rch frags o.kids n)(n:BA):n∈((gvD o.dirs++gvL o.kids)++xs.flatMap (gvN frags)).flatMap vrV↔r_o frags o n:=by
 rw [List.flatMap_append,ma_,r_o];refine or_congr_right ?_;constructor
 ·intro hn;obtain ⟨v,hv,hn⟩:=mf_.1 hn;obtain ⟨m,hm,hv⟩:=mf_.1 hv;cases hf:a_h Frag.name frags m with
  | none=>rw [gvN,hf] at hv;simp at hv
  | some f=>
   rw [gvN,hf] at hv;exact ⟨m,f,(h m).1 hm,hf,mf_.2 ⟨v,hv,hn⟩⟩
 ·rintro ⟨m,f,hm,hf,hn⟩;obtain ⟨v,hv,hn⟩:=mf_.1 hn;exact mf_.2 ⟨v,mf_.2 ⟨m,(h m).2 hm,by rw [gvN,hf];exact hv⟩,hn⟩
theorem r_T:∀ l:List Val,(l.flatMap vrV).length<=valsW l
 | []=>Nat.le_refl _
 | v::l=>by
  have h1:=r_s v;have h2:=r_T l;simp only [List.flatMap_cons,la_,valsW,List.map_cons,List.sum_cons] at h2 ⊢;omega
theorem r_t {roots:List RootD}{a:OA}{l c:Nat}{a':OA}{l' c':Nat}{a1:OA}{l1 c1:Nat}{a2:OA}{l2 c2:Nat}{a3:OA}{l3 c3:Nat}{o:OpD}{frags:List Frag}{w:World}(hDB:DB.B<=w.heap.size)(hB:Blk w k 79 [.slice A4 L4 C4,.slice A L C,.slice A3 L3 C3])(hT:RDefs w A4 L4 C4 types)(hR:b_w w A L C roots)(hD:a_Y w A3 L3 C3 dirs)(few:dirs.length<=12)
  (h2:RDirs w a2 l2 c2 o.dirs) (h3:RSels w a3 l3 c3 o.kids) (ok1:a_z o.kids) (hl':a_X w a' l' c' frags) (ok2:∀ x∈frags,b_j x) (hs:opW o+(frags.map fragW).sum<=2097152):
  CP 77 #[.pointer (some (adr k)),.agg #[.slice a l c,.slice a' l' c'],.agg #[.string o.kind,.string o.name,.slice a1 l1 c1,.slice a2 l2 c2,.slice a3 l3 c3]] w fun e w'=>∃ (A:OA) (L C:Nat) (ns:List BA),e=.returned (.slice A L C)/\EF w w'/\RStrs w' A L C ns/\∀ n,n∈ns↔r_o frags o n:=by
 have x9:EF w (w.alloc (.cells #[.slice a l c,.slice a' l' c'] 30)):=(Ext.refl w).alloc _;have x10:=x9.alloc (.cells #[.string o.kind,.string o.name,.slice a1 l1 c1,.slice a2 l2 c2,.slice a3 l3 c3] 51);refine r_v (some (adr k)) a l c a' l' c' o.kind o.name a1 l1 c1 a2 l2 c2 a3 l3 c3 w _ ⟨trivial,trivial,?_⟩;refine (r_i (lt_ hDB x10.size) (hB.ext x10 id) (hT.keep x10.keep) (hR.keep x10.keep) (hD.keep x10.keep) few (h2.keep x10.keep) (h3.keep x10.keep) ok1 (hl'.keep x10.keep) ok2 hs).mono ?_;rintro _ w12 ⟨A13,L13,C13,xs,rfl,hnd,hxs,htot,ac12⟩;have y12:=x10.then ac12.1;generalize hvs:(gvD o.dirs++gvL o.kids)++xs.flatMap (gvN frags)=vs at *;have hL13:=ac12.2.1;have hvr:=r_T vs;have hvl:=q_6 vs;refine ⟨A13,L13,C13,rfl,⟨ac12.1.keepT _,ac12.1.keepT _,trivial⟩,fun A L C i w1=>0<=i/\i<=L13/\Acc w12 w1 9 1 RS A L C ((vs.take i.toNat).flatMap vrV),fun _ _ _ i _=>((L13:Int)-i).toNat,⟨by omega,by omega,Acc.nil (Ext.refl w12)⟩,?_⟩;rintro A1 L1 C1 i w1 ⟨h0,hi,ac⟩;refine ⟨fun hlt=>?_,fun hge=>?_⟩
 ·have hlt:=odt hlt;obtain ⟨p,v,cs,hp,hxs',⟨q,r,s,t,u,y,b,m,n,h,z,rfl,hrv,hr⟩,hat⟩:=(ac12.step ac.1).get h0 hlt;have hmem:=mg_ hxs';have hsn:=q_p vrV h0 hxs';have hle:=q_q vrV vs (i+1).toNat;rw [hsn,la_] at hle;have hvw:=j_s valW hmem;have hvw:valW v<=valsW vs:=hvw;have hvn:=r_s v;have x28:EF w1 (w1.alloc (.cells #[.int .i64 q,.string r,.slice s t u,.string y,.slice b m n,.bool h,.bool z] 96)):=(Ext.refl w1).alloc _;refine ⟨p,hp,⟨h0,hlt⟩,_,(hat 0 _ rfl).cell,_,(hat 1 _ rfl).cell,_,_,_,(hat 2 _ rfl).cell,_,(hat 3 _ rfl).cell,_,_,_,(hat 4 _ rfl).cell,_,(hat 5 _ rfl).cell,_,(hat 6 _ rfl).cell,trivial,trivial,?_⟩;refine (r_w v q r s t u _ (hrv.keep (ac.1.then x28).keep) hr (by omega)).mono ?_;rintro _ w30 ⟨A31,L31,C31,rfl,ac30⟩;obtain ⟨A32,C32,w33,r33,ac33,k33⟩:=((ac.step x28).step ac30.1).more r_G r_F (ac30.sl (by omega) (by omega)) (by omega);refine ⟨A31,L31,C31,rfl,⟨ac30.1.keepT _,ac30.1.keepT _,ac30.1.keepT _,trivial⟩,A32,L1+L31,C32,w33,r33,⟨k33 _ (by decide),k33 _ (by decide),k33 _ (by decide),trivial⟩,?_⟩;rw [a_a h0 (by omega)];refine next h0 hlt ?_
  rw [hsn];exact ac33
 ·have hle:=odf hge;rw [tl_ (by omega)] at ac;refine ⟨A1,L1,C1,vs.flatMap vrV,rfl,y12.then ac.1,ac.sl (by omega) (by omega),fun n=>?_⟩;rw [<- hvs];exact r_Q hxs n
theorem r_H {a1:OA}{l1 c1:Nat}{a2:OA}{l2 c2:Nat}{a3:OA}{l3 c3:Nat}{kd nm:BA}{vars:List VarD}{w:World}(h1:RVars w a1 l1 c1 vars):
  CP 76 #[.agg #[.string kd,.string nm,.slice a1 l1 c1,.slice a2 l2 c2,.slice a3 l3 c3]] w fun e w'=>∃ A L C,e=.returned (.slice A L C)/\EF w w'/\RStrs w' A L C (vars.map VarD.name):=by
 obtain ⟨e1,e3⟩:=h1.len;have x6:EF w (w.alloc (.cells #[.string kd,.string nm,.slice a1 l1 c1,.slice a2 l2 c2,.slice a3 l3 c3] 51)):=(Ext.refl w).alloc _;refine r_M kd nm a1 l1 c1 a2 l2 c2 a3 l3 c3 w _ ⟨trivial,fun A L C i w1=>0<=i/\i<=l1/\Acc w w1 9 1 RS A L C ((vars.take i.toNat).map VarD.name),fun _ _ _ i _=>((l1:Int)-i).toNat,⟨by omega,by omega,Acc.nil x6⟩,?_⟩;rintro A1 L1 C1 i w1 ⟨h0,hi,ac⟩;refine ⟨fun hlt=>?_,fun hge=>?_⟩
 ·have hlt:=odt hlt;obtain ⟨p,y,hp,hys,cs,hc,n,b1,m1,g1,nn,b2,m2,g2,b3,m3,g3,rfl,-⟩:=h1.get h0 hlt;obtain ⟨⟨_,_,hd0⟩,hz0,⟨_,_,hd1⟩,hz1,⟨_,_,hd2⟩,hz2,⟨_,_,hd3⟩,hz3,⟨_,_,hd4⟩,hz4,⟨_,_,hd5⟩,-⟩:=hc;have x20:EF w1 (w1.alloc (.cells #[.string y.name,.string n,.slice b1 m1 g1,.bool nn,.slice b2 m2 g2,.slice b3 m3 g3] 59)):=(Ext.refl w1).alloc _;obtain ⟨A22,C22,w23,r23,ac23,k23⟩:=(ac.step x20).one r_G r_F (x:=y.name) (cs:=[.string y.name]) rfl (i_Q hz0) (by rw [List.length_map,List.length_take];omega);refine ⟨p,hp,⟨h0,hlt⟩,_,ac.1.cell hd0 id,_,ac.1.cell hd1 id,_,_,_,ac.1.cell hd2 id,_,ac.1.cell hd3 id,_,_,_,ac.1.cell hd4 id,_,_,_,ac.1.cell hd5 id,trivial,trivial,trivial,A22,L1+1,C22,w23,r23,⟨k23 _ (by decide),k23 _ (by decide),trivial⟩,?_⟩;rw [a_a h0 (by omega)];refine next h0 hlt ?_
  rw [take_snoc' h0 hys,List.map_append];exact ac23
 ·have hle:=odf hge;rw [tl_ (by omega)] at ac;exact ⟨A1,L1,C1,rfl,ac.1,ac.sl (by omega) (by rw [List.length_map];omega)⟩
def r_K (ops:List OpD)(frags:List Frag):Prop:=∃ x∈ops,∃ n,r_o frags x n/\n∉x.vars.map VarD.name
end
def badVk:Ev->Prop
 | .val (.mk k r _) (some o)=>k=0/\a_h VarD.name o.vars r=none
 | _=>False
section
variable {c:WCtx} {ae cnt:Nat} {l:List Ev} {w:World} {cx:Option OpD} {co:OA} {vm:Nat} {evs:List Value} {node:Value} {ev:Ev}
end
def isVr (r:BA)(cx:Option OpD)(e:Ev):Prop:=∃ ks,e=.val (.mk 0 r ks) cx
theorem r_J {r:BA}{cx:Option OpD}{e:Ev}(h:isVr r cx e):slot e=7:=by
 obtain ⟨ks,rfl⟩:=h;rfl
theorem q_5 {α:Type}{P:α->Prop}{a b:List α}:(∃ e∈a++b,P e)↔(∃ e∈a,P e)∨∃ e∈b,P e:=by
 simp only [ma_];exact ⟨fun ⟨e,h,p⟩=>h.elim (fun h=>.inl ⟨e,h,p⟩) fun h=>.inr ⟨e,h,p⟩,fun h=>h.elim (fun ⟨e,h,p⟩=>⟨e,.inl h,p⟩) fun ⟨e,h,p⟩=>⟨e,.inr h,p⟩⟩
theorem r_U {α β:Type}{P:β->Prop}{f:α->List β}{l:List α}:(∃ e∈l.flatMap f,P e)↔∃ x∈l,∃ e∈f x,P e:=
 ⟨fun ⟨e,h,p⟩=>(mf_.1 h).elim fun x h=>⟨x,h.1,e,h.2,p⟩,fun ⟨x,hx,e,h,p⟩=>⟨e,mf_.2 ⟨x,hx,h⟩,p⟩⟩
section
variable {cx cx':Option OpD} {r:BA}
theorem r_x {l:List Ev}(h:∀ e∈l,slot e≠7):¬ ∃ e∈l,isVr r cx' e:=fun ⟨e,he,hv⟩=>h e he (r_J hv)
mutual
theorem vr_V:∀ v:Val,okVal v->((∃ e∈evV cx v,isVr r cx' e)↔cx'=cx/\r∈vrV v)
 | .mk k r' kids,ok=>by
  simp only [okVal] at ok;obtain ⟨hka,hkb,okk,-, hk8⟩:=ok;have ih:=vr_K kids okk;have hlast:(∃ e∈[Ev.val (.mk k r' kids) cx],isVr r cx' e)↔cx'=cx/\k=0/\r=r':=by
   constructor
   ·rintro ⟨e,he,ks,rfl⟩;simp only [List.mem_singleton,Ev.val.injEq,Val.mk.injEq] at he;exact ⟨he.2,he.1.1.symm,he.1.2.1⟩
   ·rintro ⟨rfl,rfl,rfl⟩;exact ⟨_,List.mem_singleton.2 rfl,kids,rfl⟩
  rw [evV,q_5,q_5,hlast,vrV];by_cases h0:k=0
  ·subst h0;rw [if_neg (by decide),if_neg (by decide),if_pos rfl];simp
  ·rw [if_neg h0];by_cases h9:k=9
   ·subst h9;rw [if_pos rfl,if_neg (by decide),ih];simp
   ·rw [if_neg h9];by_cases h8:k=8
    ·rw [if_pos h8,ih];simp [h0]
    ·rw [if_neg h8,hk8 (by omega)];simp [h0,vrK]
theorem vr_K:∀ l:List (BA × Val),h_O l->((∃ e∈a_L cx l,isVr r cx' e)↔cx'=cx/\r∈vrK l)
 | [],_=>by simp [a_L,vrK]
 | (n,v)::l,ok=>by
  simp only [h_O] at ok;rw [a_L,q_5,vr_V v ok.1,vr_K l ok.2,vrK,ma_,<- and_or_left]
end
theorem r_X {l:List Argm}(ok:e_E l):(∃ e∈b_B cx l,isVr r cx' e)↔cx'=cx/\r∈(l.map Argm.v).flatMap vrV:=by
 rw [b_B,r_U];constructor
 ·rintro ⟨a,ha,h⟩;obtain ⟨h1,h2⟩:=(vr_V a.v (ok a ha).2).1 h;exact ⟨h1,mf_.2 ⟨a.v,mm_.2 ⟨a,ha,rfl⟩,h2⟩⟩
 ·rintro ⟨h1,h2⟩;obtain ⟨v,hv,h2⟩:=mf_.1 h2;obtain ⟨a,ha,rfl⟩:=mm_.1 hv;exact ⟨a,ha,(vr_V a.v (ok a ha).2).2 ⟨h1,h2⟩⟩
theorem r_E {loc:BA}{l:List Dir}(ok:b_4 l):(∃ e∈evDs cx loc l,isVr r cx' e)↔cx'=cx/\r∈(gvD l).flatMap vrV:=by
 have hno:¬ ∃ e∈[Ev.dirs l],isVr r cx' e:=r_x fun e he=>by
  obtain rfl:e=.dirs l:=by simpa using he
  simp [slot]
 have hno1:∀ d:Dir,¬ ∃ e∈[Ev.dir d loc],isVr r cx' e:=fun d=>r_x fun e he=>by
  obtain rfl:e=.dir d loc:=by simpa using he
  simp [slot]
 rw [evDs,q_5,r_U,or_iff_left hno];constructor
 ·rintro ⟨d,hd,h⟩;rw [q_5,or_iff_left (hno1 d),r_X (ok d hd)] at h;obtain ⟨v,hv,h2⟩:=mf_.1 h.2;exact ⟨h.1,mf_.2 ⟨v,mf_.2 ⟨d,hd,hv⟩,h2⟩⟩
 ·rintro ⟨h1,h2⟩;obtain ⟨v,hv,h2⟩:=mf_.1 h2;obtain ⟨d,hd,hv⟩:=mf_.1 hv;refine ⟨d,hd,?_⟩;rw [q_5,or_iff_left (hno1 d),r_X (ok d hd)];exact ⟨h1,mf_.2 ⟨v,hv,h2⟩⟩
variable {tys:List Def} {fs:List Frag}
theorem vr_L:∀ (ks:List Sel) (pd:Option Def),a_z ks->((∃ e∈evL tys fs cx pd ks,isVr r cx' e)↔cx'=cx/\r∈(gvL ks).flatMap vrV)
 | [],pd,_=>by simp [evL,gvL]
 | .mk k al n on args dirs kids::l,pd,ok=>by
  simp only [a_z,okSel] at ok;obtain ⟨⟨hk,oka,okd,okk,hk1,hk2⟩,okl⟩:=ok;have hF:∀ s pd',¬ ∃ e∈[Ev.fld s pd'],isVr r cx' e:=fun s pd'=>r_x fun e he=>by
   obtain rfl:e=.fld s pd':=by simpa using he
   simp [slot]
  have hI:∀ s pd',¬ ∃ e∈[Ev.inl s pd'],isVr r cx' e:=fun s pd'=>r_x fun e he=>by
   obtain rfl:e=.inl s pd':=by simpa using he
   simp [slot]
  have hS:∀ n b pd',¬ ∃ e∈[Ev.spread n b pd'],isVr r cx' e:=fun n b pd'=>r_x fun e he=>by
   obtain rfl:e=.spread n b pd':=by simpa using he
   show (4:Nat)≠7;decide
  rw [evL,q_5,vr_L l pd okl,gvL,List.flatMap_append,ma_,gvS,List.flatMap_append,ma_,List.flatMap_append,ma_,and_or_left];refine or_congr_left ?_;rw [evS];by_cases h0:k=0
  ·rw [if_pos h0,q_5,q_5,q_5,or_iff_left (hF _ _),r_X oka,r_E okd,vr_L kids _ okk,<- and_or_left,<- and_or_left,or_assoc]
  ·rw [if_neg h0];by_cases h1:k=1
   ·obtain ⟨rfl,rfl⟩:=hk1 h1;rw [if_pos h1,q_5,or_iff_left (hS _ _ _),r_E okd];simp [gvL]
   ·have h2:args=[]:=hk2 (by omega);subst h2;rw [if_neg h1,q_5,q_5,or_iff_left (hI _ _),r_E okd,vr_L kids _ okk,<- and_or_left];simp
theorem r_R {f:Frag}(ok:b_j f):(∃ e∈evFr tys fs cx f,isVr r cx' e)↔cx'=cx/\r∈(gvF f).flatMap vrV:=by
 rw [evFr,q_5,r_E ok.1,vr_L _ _ ok.2.1,gvF,List.flatMap_append,ma_,<- and_or_left]
mutual
theorem r_V:∀ v:Val,fixV v->vrV v=[]
 | .mk k r kids,h=>by
  simp only [fixV] at h;rw [vrV,if_neg h.1,r_0 kids h.2]
theorem r_0:∀ l:List (BA × Val),fixK l->vrK l=[]
 | [],_=>rfl
 | (n,v)::l,h=>by
  simp only [fixK] at h;rw [vrK,r_V v h.1,r_0 l h.2,List.append_nil]
end
end
theorem r_5 {c:WCtx}{x:OpD}(ok:okOp x){r:BA}{cx':Option OpD}:(∃ e∈evOp c x,isVr r cx' e)↔cx'=some x/\r∈(gvD x.dirs++gvL x.kids).flatMap vrV:=by
 obtain ⟨-, okv,okd,okk⟩:=ok;have hO:¬ ∃ e∈[Ev.op x],isVr r cx' e:=r_x fun e he=>by
  obtain rfl:e=.op x:=by simpa using he
  simp [slot]
 have hV:¬ ∃ e∈f_j (some x) x.vars,isVr r cx' e:=by
  rw [f_j,q_5,or_iff_right (r_x fun e he=>by
   obtain ⟨v,-, rfl⟩:=mm_.1 he;show (8:Nat)≠7;decide),r_U]
  rintro ⟨v,hv,h⟩;obtain ⟨-, ⟨-, okf⟩,okd',-, hf1,hf2⟩:=okv v hv;rw [q_5,r_E okd'] at h;rcases h with h|⟨-, h⟩
  ·cases hd:v.dflt with
   | nil=>rw [hd] at h;simp [evDef] at h
   | cons y ys=>
    rw [hd] at h;have h:=(vr_V y (okf y (by rw [hd];simp))).1 h;rw [r_V y (hf1 y (by rw [hd];simp))] at h;simp at h
  ·obtain ⟨u,hu,h⟩:=mf_.1 h;obtain ⟨d,hd,hu⟩:=mf_.1 hu;obtain ⟨a,ha,rfl⟩:=mm_.1 hu;rw [r_V a.v (hf2 d hd a ha)] at h;simp at h
 rw [evOp,q_5,q_5,q_5,or_iff_right hV,or_iff_left hO,r_E okd,vr_L _ _ okk,List.flatMap_append,ma_,<- and_or_left]
theorem r_p {α:Type}{nm:α->BA}{l:List α}{k:BA}:a_h nm l k=none↔k∉l.map nm:=by
 rw [a_h,List.find?_eq_none];constructor
 ·intro h hm;obtain ⟨x,hx,rfl⟩:=mm_.1 hm;simpa using h x hx
 ·intro h x hx e;exact h (mm_.2 ⟨x,hx,by simpa using e⟩)
theorem vr_D {c:WCtx}{x:OpD}{n:BA}{cx':Option OpD}(ok:okOp x)(ok2:∀ f∈c.frags,b_j f):(∃ e,DOp c x e/\isVr n cx' e)↔cx'=some x/\r_o c.frags x n:=by
 constructor
 ·rintro ⟨e,h|⟨m,f,h1,h2,h3⟩,hv⟩
  ·obtain ⟨k1,k2⟩:=(r_5 ok).1 ⟨e,h,hv⟩;exact ⟨k1,.inl k2⟩
  ·obtain ⟨k1,k2⟩:=(r_R (ok2 f (a_U h2).1)).1 ⟨e,h3,hv⟩;exact ⟨k1,.inr ⟨m,f,h1,h2,k2⟩⟩
 ·rintro ⟨rfl,h|⟨m,f,h1,h2,h3⟩⟩
  ·obtain ⟨e,he,hv⟩:=(r_5 (c:=c) ok).2 ⟨rfl,h⟩;exact ⟨e,.inl he,hv⟩
  ·obtain ⟨e,he,hv⟩:=(r_R (tys:=c.types) (fs:=c.frags) (cx:=some x) (ok2 f (a_U h2).1)).2 ⟨rfl,h3⟩;exact ⟨e,.inr ⟨m,f,h1,h2,he⟩,hv⟩
theorem u_o {a:OA}{l c:Nat}{a':OA}{l' c':Nat}{ops:List OpD}{frags:List Frag}{w:World}(hl:ROps w a l c ops)(hl':a_X w a' l' c' frags):
  CP 29 #[.agg #[.slice a l c,.slice a' l' c']] w (RetB w fun b=>b=true↔∃ x∈ops,¬ (nz (x.vars.map VarD.name)).Nodup):=by
 obtain ⟨e1,e3⟩:=hl.len;have hx0:=(Ext.refl (X:=fun _=>False) w).alloc (.cells #[.slice a l c,.slice a' l' c'] 30);refine u_p a l c a' l' c' w _ ⟨trivial,?_⟩;refine ⟨fun i w1=>0<=i/\i<=l/\EF w w1/\∀ x∈ops.take i.toNat,(nz (x.vars.map VarD.name)).Nodup,fun i _=>((l:Int)-i).toNat,⟨by omega,by omega,hx0,by simp⟩,?_⟩;rintro i w1 ⟨h0,hi,hx,hn⟩;refine ⟨fun hlt=>?_,fun hge=>?_⟩
 ·have hlt:=odt hlt;obtain ⟨p,x,hp,hxs,cs,hc,a1,l1,c1,a2,l2,c2,a3,l3,c3,rfl,hv1,hv2,hv3⟩:=hl.get h0 hlt;obtain ⟨⟨_,_,hc0⟩,hs0,⟨_,_,hc1⟩,hs1,⟨_,_,hc2⟩,hs2,⟨_,_,hc3⟩,hs3,⟨_,_,hc4⟩,-⟩:=hc;refine ⟨p,hp,⟨h0,hlt⟩,_,hx.cell hc0 id,_,hx.cell hc1 id,_,_,_,hx.cell hc2 id,_,_,_,hx.cell hc3 id,_,_,_,hx.cell hc4 id,trivial,trivial,?_⟩;have hx15:=hx.alloc (.cells #[.string x.kind,.string x.name,.slice a1 l1 c1,.slice a2 l2 c2,.slice a3 l3 c3] 51);obtain ⟨v1,v3⟩:=hv1.len;refine ⟨fun A L C j w2=>0<=j/\j<=l1/\EF w w2/\L=j.toNat/\∃ cells,Own w.heap.size w2 9 1 A L C cells/\Flat 1 RS ((x.vars.take j.toNat).map VarD.name) cells,fun _ _ _ j _=>((l1:Int)-j).toNat,⟨by omega,by omega,hx15,rfl,[],Own.nil ..,.nil⟩,?_⟩;rintro A L C j w2 ⟨k0,kj,kx,hL,cells,hown,hf⟩;refine ⟨fun klt=>?_,fun kge=>?_⟩
  ·have klt:=odt klt;obtain ⟨q,y,hq,hys,cs,hd,n,b1,m1,d1,nn,b2,m2,d2,b3,m3,d3,rfl,hu1,hu2,hu3⟩:=hv1.get k0 klt;obtain ⟨⟨_,_,hd0⟩,ht0,⟨_,_,hd1⟩,ht1,⟨_,_,hd2⟩,ht2,⟨_,_,hd3⟩,ht3,⟨_,_,hd4⟩,ht4,⟨_,_,hd5⟩,-⟩:=hd;refine ⟨q,hq,⟨k0,klt⟩,_,kx.cell hd0 id,_,kx.cell hd1 id,_,_,_,kx.cell hd2 id,_,kx.cell hd3 id,_,_,_,kx.cell hd4 id,_,_,_,kx.cell hd5 id,trivial,trivial,trivial,?_⟩;have hx29:EF w2 (w2.alloc (.cells #[.string y.name,.string n,.slice b1 m1 d1,.bool nn,.slice b2 m2 d2,.slice b3 m3 d3] 59)):=(Ext.refl w2).alloc _;obtain ⟨A2,C2,w32,r1,⟨cells2,o2,f2⟩,x2,k2⟩:=a_S (hown.keep hx29 fun _ _=>id) (lt_ kx.size hx29.size) hf (s:=y.name) ht0 (by omega);have hx32:EF w w32:=(kx.then hx29).trans x2 fun b hb hbl=>by
    have:=((hown.keep hx29 fun _ _=>id).base b hbl).1;omega
   refine ⟨A2,L+1,C2,w32,r1,⟨k2 30 (by decide),k2 51 (by decide),k2 59 (by decide),trivial⟩,?_⟩;rw [a_a k0 (by omega)];refine next k0 klt ⟨hx32,by omega,cells2,o2,?_⟩
   rw [take_snoc k0 hys];simpa using f2
  ·have kle:=odf kge;rw [tl_ (by omega)] at hf;have hall:RStrs w2 A L C _:=hown.sl hf (by omega) (by omega);refine (o_b hall).mono ?_;rintro _ w' ⟨b,rfl,hx',hb⟩;refine ⟨b,rfl,⟨hx'.keepT _,hx'.keepT _,trivial⟩,fun hbt=>⟨true,rfl,kx.then hx',fun _=>⟨x,mg_ hxs,hb.1 hbt⟩,fun _=>rfl⟩,fun hbf=>?_⟩;rw [a_a h0 (by omega)];refine next h0 hlt ⟨kx.then hx',a_g h0 hn hxs (Classical.byContradiction fun hno=>?_)⟩
   rw [hb.2 hno] at hbf;cases hbf
 ·have hle:=odf hge;rw [tl_ (by omega)] at hn;exact ⟨false,rfl,hx,nofun,fun ⟨x,hx,h⟩=>absurd (hn x hx) h⟩
def idleD (ops:List OpD)(frags:List Frag):Prop:=∃ x∈ops,∃ n∈x.vars.map VarD.name,¬ r_o frags x n
section
variable {k:Nat} {A4:OA} {L4 C4:Nat} {A:OA} {L C:Nat} {A3:OA} {L3 C3:Nat} {types:List Def} {dirs:List DirDef}
theorem u_j {roots:List RootD}{a:OA}{l c:Nat}{a':OA}{l' c':Nat}{ops:List OpD}{frags:List Frag}{w:World}(hDB:DB.B<=w.heap.size)(hB:Blk w k 79 [.slice A4 L4 C4,.slice A L C,.slice A3 L3 C3])(hT:RDefs w A4 L4 C4 types)(hR:b_w w A L C roots)(hD:a_Y w A3 L3 C3 dirs)(few:dirs.length<=12)(hl:ROps w a l c ops)(hl':a_X w a' l' c' frags)(ok1:∀ x∈ops,okOp x)(ok2:∀ x∈frags,b_j x)(hs:docW ops frags<=2097152):
  CP 31 #[.pointer (some (adr k)),.agg #[.slice a l c,.slice a' l' c']] w (RetB w fun b=>b=true↔idleD ops frags):=by
 obtain ⟨e1,e3⟩:=hl.len;have x4:EF w (w.alloc (.cells #[.slice a l c,.slice a' l' c'] 30)):=(Ext.refl w).alloc _;refine u_k (some (adr k)) a l c a' l' c' w _ ⟨trivial,fun i w1=>0<=i/\i<=l/\EF w w1/\∀ x∈ops.take i.toNat,∀ n∈x.vars.map VarD.name,r_o frags x n,fun i _=>((l:Int)-i).toNat,⟨by omega,by omega,x4,by simp⟩,?_⟩;rintro i w1 ⟨h0,hi,hx,hn⟩;refine ⟨fun hlt=>?_,fun hge=>?_⟩
 ·have hlt:=odt hlt;obtain ⟨p,x,hp,hxs,cs,hc,a1,l1,c1,a2,l2,c2,a3,l3,c3,rfl,hv1,hv2,hv3⟩:=hl.get h0 hlt;obtain ⟨⟨_,_,hc0⟩,hs0,⟨_,_,hc1⟩,hs1,⟨_,_,hc2⟩,hs2,⟨_,_,hc3⟩,hs3,⟨_,_,hc4⟩,-⟩:=hc;have hmem:=mg_ hxs;have x16:EF w1 (w1.alloc (.cells #[.string x.kind,.string x.name,.slice a1 l1 c1,.slice a2 l2 c2,.slice a3 l3 c3] 51)):=(Ext.refl w1).alloc _;have y16:=hx.then x16;refine ⟨p,hp,⟨h0,hlt⟩,_,hx.cell hc0 id,_,hx.cell hc1 id,_,_,_,hx.cell hc2 id,_,_,_,hx.cell hc3 id,_,_,_,hx.cell hc4 id,trivial,trivial,?_⟩;have hsum:opW x+(frags.map fragW).sum<=2097152:=by
   have:=j_s opW hmem;rw [docW] at hs;omega
  refine (r_t (o:=x) (lt_ hDB y16.size) (hB.ext y16 id) (hT.keep y16.keep) (hR.keep y16.keep) (hD.keep y16.keep) few (hv2.keep y16.keep) (hv3.keep y16.keep) (ok1 x hmem).2.2.2 (hl'.keep y16.keep) ok2 hsum).mono ?_;rintro _ w21 ⟨A22,L22,C22,ns,rfl,x21,r21,hns⟩;have y21:=y16.then x21;refine ⟨A22,L22,C22,rfl,⟨x21.keepT _,x21.keepT _,trivial⟩,?_⟩;refine (r_H (RVars.keep y21.keep hv1)).mono ?_;rintro _ w18 ⟨A19,L19,C19,rfl,x18,r18⟩;have y18:=y21.then x18;obtain ⟨g1,g3⟩:=r18.len;refine ⟨A19,L19,C19,rfl,⟨x18.keepT _,x18.keepT _,trivial⟩,fun j w2=>0<=j/\j<=L19/\EF w18 w2/\∀ n∈(x.vars.map VarD.name).take j.toNat,r_o frags x n,fun j _=>((L19:Int)-j).toNat,⟨by omega,by omega,Ext.refl w18,by simp⟩,?_⟩;rintro j w2 ⟨j0,hj,hy,hm⟩;refine ⟨fun hjl=>?_,fun hjg=>?_⟩
  ·have hjl:=odt hjl;obtain ⟨p2,n,hp2,hns2,cs2,hc2,rfl⟩:=r18.get j0 hjl;refine ⟨p2,hp2,⟨j0,hjl⟩,n,hy.cell hc2.1.choose_spec.2 id,?_⟩;refine (c_in n (r21.keep (x18.then hy).keep)).mono ?_;rintro _ w30 ⟨b,rfl,x30,hb⟩;refine ⟨b,rfl,⟨x30.keepT _,x30.keepT _,trivial⟩,fun h=>⟨true,rfl,(y18.then hy).then x30,fun _=>⟨x,hmem,n,mg_ hns2,fun hd=>?_⟩,fun _=>rfl⟩,fun h=>?_⟩
   ·rw [hb.2 ((hns n).2 hd)] at h;cases h
   ·rw [a_a j0 (by omega)];exact next j0 hjl ⟨hy.then x30,a_g j0 hm hns2 ((hns n).1 (hb.1 (by simpa using h)))⟩
  ·have hall:=a_o g1 hjg hm;rw [a_a h0 (by omega)];exact next h0 hlt ⟨y18.then hy,a_g h0 hn hxs hall⟩
 ·have hall:=a_o e1 hge hn;exact ⟨false,rfl,hx,nofun,fun ⟨x,hx',n,hm,h⟩=>absurd (hall x hx' n hm) h⟩
end
theorem At.det {w:World}{T T':TypeId}{a:Addr}{v v':Value}(h:At w T a v)(h':At w T' a v'):v=v':=Option.some.inj (h.cell.symm.trans h'.cell)
theorem u_s {S:Nat->Prop}{w:World}{qb:Nat}{ops:List OpD}(hs:SepP S w qb ops){p p':Addr}{L C L' C' i i' b b' vb:Nat}(h1:At w 266 ⟨qb,0,none⟩ (.slice (some p) L C))(h2:At w 209 (p.add i) (.pointer (some (adr b))))(h1':At w 266 ⟨qb,0,none⟩ (.slice (some p') L' C'))(h2':At w 209 (p'.add i') (.pointer (some (adr b'))))(hi:i<ops.length)(hi':i'<ops.length)(hv:VarAt w b vb)(hv':VarAt w b' vb):i=i':=by
 obtain ⟨A,LA,CA,zs,hS,hA,hz,hinc,hsl⟩:=hs;have hlen:zs.length=ops.length:=by rw [<- hz,List.length_map]
 have key:∀ {p:Addr} {L C i b:Nat},At w 266 ⟨qb,0,none⟩ (.slice (some p) L C)->At w 209 (p.add i) (.pointer (some (adr b)))->i<ops.length->VarAt w b vb->∃ z,zs[i]? =some z/\z.2.1<=vb/\vb<z.2.2:=by
  intro p L C i b h1 h2 hi hv;obtain ⟨z,hzi⟩:∃ z,zs[i]? =some z:=⟨zs[i]'(by omega),List.getElem?_eq_getElem (by omega)⟩;obtain ⟨q,v,hq,-, hat,nb,rfl,hpo⟩:=hsl.2.2.2 i z hzi;have e1:=hA.det h1;simp only [Value.slice.injEq] at e1;rw [e1.1] at hq;obtain rfl:p=q:=Option.some.inj hq;have e2:=hat.det h2;obtain rfl:nb=b:=by simpa using e2
  obtain ⟨A1,L1,C1,A2,L2,C2,A3,L3,C3,pos,hM,hB,hvars,-⟩:=hpo;obtain ⟨pv,LV,CV,j,k1,k2,k3⟩:=hv;have e3:=(hB.at (j:=3) rfl).det k1;simp only [Value.slice.injEq] at e3;obtain ⟨y,hy⟩:∃ y,z.1.vars[j]? =some y:=⟨_,List.getElem?_eq_getElem (by have:=hvars.1;omega)⟩;obtain ⟨q',v',hq',-, hat',vb',rfl,hpv⟩:=hvars.2.2.2 j y hy;rw [e3.1] at hq';obtain rfl:pv=q':=Option.some.inj hq';have e4:=hat'.det k3;obtain rfl:vb'=vb:=by simpa using e4
  obtain ⟨tb,qd,Av,Lv,Cv,posv,hMv,-⟩:=hpv;exact ⟨z,hzi,hMv.2.1,hMv.2.2⟩
 obtain ⟨z,hz1,hz2,hz3⟩:=key h1 h2 hi hv;obtain ⟨z',hz1',hz2',hz3'⟩:=key h1' h2' hi' hv';rcases Nat.lt_trichotomy i i' with h|h|h
 ·have:=hinc i i' z z' h hz1 hz1';omega
 ·exact h
 ·have:=hinc i' i z' z h hz1' hz1;omega
theorem u_v {c:WCtx}(hs:SepP c.M c.w0 c.qb c.ops){o o':OpD}{b b' vb:Nat}(h:OpIn c o b)(h':OpIn c o' b')(hv:VarAt c.w0 b vb)(hv':VarAt c.w0 b' vb):o=o':=by
 obtain ⟨i,hi,p,L,C,h1,h2⟩:=h;obtain ⟨i',hi',p',L',C',h1',h2'⟩:=h';have:=u_s hs h1 h2 h1' h2' (List.getElem?_eq_some_iff.1 hi).1 (List.getElem?_eq_some_iff.1 hi').1 hv hv';subst this;rw [hi] at hi';exact Option.some.inj hi'
theorem u_l {α β:Type}{f:α->β}:∀ {l:List α} {i j:Nat} {x y:α},(l.map f).Nodup->l[i]? =some x->l[j]? =some y->f x=f y->i=j
 | [],i,j,x,y,_,hx,_,_=>by simp at hx
 | a::l,i,j,x,y,h,hx,hy,e=>by
  rw [List.map_cons,List.nodup_cons] at h;cases i with
  | zero=>
   obtain rfl:a=x:=by simpa using hx
   cases j with
   | zero=>rfl
   | succ j=>exact absurd (mm_.2 ⟨y,mg_ (by simpa using hy:l[j]? =some y),e.symm⟩) h.1
  | succ i=>
   cases j with
   | zero=>
    obtain rfl:a=y:=by simpa using hy
    exact absurd (mm_.2 ⟨x,mg_ (by simpa using hx:l[i]? =some x),e⟩) h.1
   | succ j=>
    have:=u_l (l:=l) (i:=i) (j:=j) h.2 (by simpa using hx) (by simpa using hy) e;omega
def badVu (c:WCtx):Ev->Prop
 | .op o=>∃ y∈o.vars,¬ UsedE c o y.name
 | _=>False
abbrev StU (bad:Ev->Prop)(ae cnt:Nat)(l:List Ev)(w:World):Prop:=Cnt ae cnt (l.length*4194304) (∃ e∈l,bad e) w
section
variable {c:WCtx} {ae cnt:Nat} {bad:Ev->Prop} {l:List Ev} {w:World} {cx:Option OpD} {co:OA} {vm:Nat} {evs:List Value} {node:Value} {ev:Ev}
theorem u_w (hsep:SepP c.M c.w0 c.qb c.ops)(hnd:∀ x∈c.ops,(x.vars.map VarD.name).Nodup)(hVM:∀ b,b=cnt∨b=ae->¬ c.M b)(hbad:∀ e,bad e↔badVu c e)(hne:ae≠cnt)(hc:StU bad ae cnt l w)(hw:Wst c cx co vm evs w)(hk:slot ev=0)(hn:f_i c cx w node ev):
  CP 135 #[.pointer (some (adr c.wb)),node,.pointer (some (adr ae))] w fun e w'=>e=.returned (.tuple #[])/\Ext (fun b=>b=cnt∨b=ae) w w'/\StU bad ae cnt (l++[ev]) w':=by
 cases ev with
 | op o=>
  obtain ⟨-, b,A,L,C,rfl,hp,ho,hoi,hcell,hL,hU,hvars⟩:=hn;obtain ⟨A1,L1,C1,A2,L2,C2,A3,L3,C3,pos,hM,hB,hpv,-⟩:=hp;have hLs:=hpv.2.2.1;have hL1:=hpv.1;have hB1:bad (.op o)↔∃ y∈o.vars,¬ UsedE c o y.name:=hbad _;have eA:A=A1/\L=L1:=by
   have:=hcell.symm.trans (hw.wk.nd hM hB (j:=3) rfl rfl);simp only [Option.some.injEq,Value.slice.injEq] at this;exact ⟨this.1,this.2.1⟩
  refine u_b (some (adr c.wb)) (some (adr b)) (adr ae) w _ ⟨adr b,rfl,A,L,C,hcell,fun n w1=>0<=n/\n<=L/\Ext (fun b=>b=cnt∨b=ae) w w1/\Cnt ae cnt (l.length*4194304+n.toNat) ((∃ e∈l,bad e)∨∃ y∈o.vars.take n.toNat,¬ UsedE c o y.name) w1,fun n _=>((L:Int)-n).toNat,⟨by omega,by omega,Ext.refl w,Cnt.skip hc (by simp) (by simp)⟩,?_⟩;rintro n w1 ⟨h0,hi,x1,c1⟩;have k1:=hw.wk.trans (Wk.ofExt x1 fun b hb e=>hVM b e hb);refine ⟨fun hlt=>fun K10 hK10=>?_,fun hge=>?_⟩
  ·have hlt:=odt hlt;obtain ⟨y,hy⟩:∃ y,o.vars[n.toNat]? =some y:=⟨_,List.getElem?_eq_getElem (by omega)⟩;have hym:=mg_ hy;obtain ⟨p,vb,hpA,-, hpv',-, hpM,hat,-⟩:=hvars n.toNat y hy;obtain ⟨tb,qd,Av,Lv,Cv,posv,hMv,hBv,-⟩:=id hpv';have hva:VarAt c.w0 b vb:=⟨p,L1,C1,n.toNat,by rw [<- hpA,eA.1];exact hB.at (j:=3) rfl,by omega,hat⟩;have cp:w1.cell? (p.add (n.toNat*1))=some (.pointer (some (adr vb))):=by simpa using (k1.at (by rw [b_x];exact hpM) hat rfl).cell
   obtain ⟨z,a8,hz1,hz2⟩:∃ z:Bool,At w 254 ⟨vb,8,none⟩ (.bool z)/\(z=true->UsedE c o y.name)/\(UsedE c o y.name->z=true):=by
    have huse:∀ z:Bool,At w 254 ⟨vb,8,none⟩ (.bool z)->UsedE c o y.name->z=true:=fun z a8 hu=>by
     obtain ⟨y',hy'⟩:∃ y',a_h VarD.name o.vars y.name=some y':=by
      cases hf:a_h VarD.name o.vars y.name with
      | some y'=>exact ⟨y',rfl⟩
      | none=>exact absurd (mm_.2 ⟨y,hym,rfl⟩) (r_p.1 hf)
     obtain ⟨p',j,vb',z',e1,e2,e3,e4,e5⟩:=hU y.name hu y' hy';have hj:=u_l (hnd o ho) e2 hy e3;subst hj;rw [hpA] at e1;obtain rfl:p=p':=Option.some.inj e1;have:=e4.det hat;obtain rfl:vb'=vb:=by simpa using this
     have:=a8.cell.symm.trans e5;simpa using this
    obtain ⟨v',h1,h2|h2⟩:=hw.wk.note (a:=⟨vb,8,none⟩) hMv (hBv.at (j:=8) rfl)
    ·subst h2;exact ⟨false,h1,nofun,huse false h1⟩
    ·obtain ⟨rfl,h3⟩:=h2.2.2.2.2.2.2.2.2 ⟨rfl,rfl⟩;refine ⟨true,h1,fun _=>?_,fun _=>rfl⟩;obtain ⟨o',ob',i1,i2,i3⟩:=h3 y hpv';rw [u_v hsep hoi i1 hva i2];exact i3
   have a81:=x1.at (hVM vb · hMv) a8;have tk:o.vars.take (n+1).toNat=o.vars.take n.toNat++[y]:=by
    rw [show (n+1).toNat=n.toNat+1 by omega,List.take_add_one,hy];rfl
   have keyn:∀ w',Ext (fun b=>b=cnt∨b=ae) w w'->Cnt ae cnt (l.length*4194304+(n+1).toNat) ((∃ e∈l,bad e)∨∃ y∈o.vars.take (n+1).toNat,¬ UsedE c o y.name) w'->K10 w':=by
    intro w' x' c';refine hK10 w' ?_;rw [a_a h0 (by omega)];exact next h0 hlt ⟨x',c'⟩
   have told:∀ w',Ext (fun b=>b=cnt∨b=ae) w1 w'->¬ UsedE c o y.name->Cnt ae cnt (l.length*4194304+n.toNat+1) True w'->K10 w':=fun w' x' hno c'=>by
    refine keyn w' (x1.trans x' fun _ _ e=>e) (Cnt.skip c' (by omega) ⟨fun _=>.inr ⟨y,?_,hno⟩,fun _=>trivial⟩);rw [tk];simp
   refine ⟨p,hpA,⟨h0,hlt⟩,some (adr vb),cp,adr vb,rfl,z,a81.cell,fun hzt=>?_,fun hzf=>?_⟩
   ·refine keyn w1 x1 (Cnt.skip c1 (by omega) ?_);rw [tk];have hu:=hz1 hzt;constructor
    ·rintro (h|⟨y',h,h'⟩)
     ·exact .inl h
     ·exact .inr ⟨y',by simp [h],h'⟩
    ·rintro (h|⟨y',h,h'⟩)
     ·exact .inl h
     ·rcases ma_.1 h with h|h
      ·exact .inr ⟨y',h,h'⟩
      ·rw [List.mem_singleton.1 h] at h';exact absurd hu h'
   ·have hno:¬ UsedE c o y.name:=fun h=>by rw [hz2 h] at hzf;cases hzf
    refine ⟨adr b,rfl,o.name,k1.nd hM hB (j:=2) rfl rfl,fun hnm=>fun w18 e18=>?_,fun hnm=>fun w39 e39=>?_⟩
    ·have x18:EF w1 w18:=by rw [e18];exact (Ext.refl w1).drew
     clear e18;have k18:=k1.trans (Wk.ofExt x18 fun _ _=>id);have c18:=c1.ext x18 id id;have a5:=k18.at (a:=⟨vb,5,none⟩) hMv (hBv.at (j:=5) rfl) rfl;refine ⟨_,(c18.1.at (j:=0) rfl).cell,adr vb,rfl,y.name,k18.nd hMv hBv (j:=1) rfl rfl,adr b,rfl,o.name,k18.nd hM hB (j:=2) rfl rfl,adr vb,rfl,posv,a5.cell,trivial,?_⟩;exact tell c18 a5 hne ((Ext.refl w18).alloc _) rfl fun w' x' c'=>told w' ((x18.toM _).trans x' fun _ _ e=>e) hno c'
    ·have x39:EF w1 w39:=by rw [e39];exact (Ext.refl w1).drew
     clear e39;have k39:=k1.trans (Wk.ofExt x39 fun _ _=>id);have c39:=c1.ext x39 id id;have a5:=k39.at (a:=⟨vb,5,none⟩) hMv (hBv.at (j:=5) rfl) rfl;refine ⟨_,(c39.1.at (j:=0) rfl).cell,adr vb,rfl,y.name,k39.nd hMv hBv (j:=1) rfl rfl,adr vb,rfl,posv,a5.cell,trivial,?_⟩;exact tell c39 a5 hne ((Ext.refl w39).alloc _) rfl fun w' x' c'=>told w' ((x39.toM _).trans x' fun _ _ e=>e) hno c'
  ·have hge:=odf hge;rw [tl_ (by omega)] at c1;refine ⟨rfl,x1,Cnt.skip c1 (by simp [la_,Nat.add_mul];omega) ?_⟩;rw [i_p,hB1]
 | _=>cases hk
end
theorem u_n {c:WCtx}{x:OpD}{n:BA}(ok:okOp x)(ok2:∀ f∈c.frags,b_j f):UsedE c x n↔r_o c.frags x n:=by
 have:=vr_D (c:=c) (n:=n) (cx':=some x) ok ok2;constructor
 ·rintro ⟨ks,h⟩;exact (this.1 ⟨_,h,ks,rfl⟩).2
 ·intro h;obtain ⟨e,h1,ks,rfl⟩:=this.2 ⟨rfl,h⟩;exact ⟨ks,h1⟩
theorem u_t {c:WCtx}{o:OpD}:DocEv c (.op o)↔o∈c.ops:=by
 have hF:∀ {cx:Option OpD} {f:Frag},Ev.op o∉evFr c.types c.frags cx f:=fun {cx f} h=>by
  have:=u_q _ h;simp [slot] at this
 constructor
 ·rintro (⟨x,hx,h|⟨n,f,-, -, h⟩⟩|⟨f,hf,(h|⟨n,g,-, -, h⟩)|h⟩)
  ·simp only [evOp,ma_] at h;rcases h with h|h|h|h
   ·have:=g_e _ h;simp [slot] at this
   ·have:=b_C _ h;simp [slot] at this
   ·have:=t_K _ _ _ h;simp [slot] at this
   ·have:=List.mem_singleton.1 h;cases this;exact hx
  ·exact absurd h hF
  ·exact absurd h hF
  ·exact absurd h hF
  ·cases h
 ·exact fun h=>.inl ⟨o,h,.inl (by simp [evOp])⟩
theorem u_x (types:List Def)(dirs:List DirDef)(defs:List SchemaDef)(ops:List OpD)(frags:List Frag)(hO:OkSchema types dirs defs)(h12:ops.length<=12)(h12':frags.length<=12)(ok1:∀ x∈ops,okOp x)(ok2:∀ x∈frags,b_j x)(hs:docW ops frags<=2097152)(hS:SoundD types (a_F types defs) ops frags)(hT:¬ ∃ x∈ops,¬ (nz (x.vars.map VarD.name)).Nodup):
  RuleOK 79 (wideD types dirs (a_F types defs)) ops frags fun n=>0<=n/\(n>0↔idleD ops frags):=by
 refine ⟨⟨_,Tryz.func79,by kernel_rfl⟩,?_⟩;intro c cnt hops hfrags hwd hb hB hcnt hne hMc hMe;subst hops;subst hfrags;obtain ⟨rf,hrf⟩:=l_q hS.ac;have hnd:∀ x∈c.ops,(x.vars.map VarD.name).Nodup:=fun x hx=>by
  have h:(nz (x.vars.map VarD.name)).Nodup:=Classical.byContradiction fun k=>hT ⟨x,hx,k⟩
  rwa [o_Z fun n hn=>by
   obtain ⟨v,hv,rfl⟩:=mm_.1 hn;exact ((ok1 x hx).2.1 v hv).2.2.2.1] at h
 have x3:EF c.w0 (c.w0.alloc (.cells #[.func (.func 108) #[] #[.pointer (some (adr cnt))]] 161)):=(Ext.refl c.w0).alloc _;have Bae:=Blk.made c.w0 161 [.func (.func 108) #[] #[.pointer (some (adr cnt))]];refine u_c (some (adr c.eb)) _ c.w0 _ ⟨⟨rfl,trivial⟩,?_⟩;have hlc:=hcnt.lt;have hle:=hB.lt;generalize hw3:c.w0.alloc (.cells #[.func (.func 108) #[] #[.pointer (some (adr cnt))]] 161)=w3;replace x3:EF c.w0 w3:=by rw [<- hw3];exact x3
 replace Bae:Blk w3 c.w0.heap.size 161 [.func (.func 108) #[] #[.pointer (some (adr cnt))]]:=by rw [<- hw3];exact Bae
 clear hw3;have hla:=Bae.lt;refine (u_d (f:=.func (.func 135) #[] #[.pointer (some (adr c.w0.heap.size))]) rfl (hB.ext x3 id) rfl).mono ?_;rintro _ w5 ⟨rfl,p,C,B5,ap,hpb,x5⟩;have y5:Ext (fun b=>b=c.eb) c.w0 w5:=(x3.toM _).trans x5 fun _ _ e=>e;have hz5:=x5.size;have hz3:=x3.size;have hae:c.w0.heap.size≠cnt:=by omega
 have Bae5:=Bae.ext x5 (by show ¬ c.w0.heap.size=c.eb;omega);have Bc5:=hcnt.ext y5 hne;have hVM:∀ b,b=cnt∨b=c.w0.heap.size->¬ c.M b:=fun b hV hM=>by
  have:=hb.m b hM;rcases hV with rfl|rfl
  ·exact hMc hM
  ·omega
 have k5:Keeps c.M c.M c.w0 w5:=y5.keeps (fun b hb _=>hb) fun b hb' _ e=>by
  have:b=c.eb:=e;exact hMe (this▸hb')
 have hsep:SepP c.M w5 c.qb c.ops:=hwd.2.2.2.2.2.2.keep k5;refine ⟨rfl,trivial,rfl,y5,fun b=>b=cnt∨b=c.w0.heap.size,StU (badVu c) c.w0.heap.size cnt,obL [(0,p,C)],rf,?_,fun b hb'=>?_,fun b hb' T cs fr ho=>?_,fun l w'' hl ht=>?_⟩
 ·refine n_H hb hrf hMe y5 (fun b hb'=>hb'.imp id fun e=>by omega) hlc hne hMc hle (fun l w w'' h hx=>Cnt.ext h hx (fun e=>e (.inr rfl)) fun e=>e (.inl rfl)) (Cnt.zero Bae5 Bc5 (by simp)) B5 fun b5 wb fm fl j=>o_M (fun x hx=>?_) j;simp only [mc_,nn_,or_false] at hx;subst hx;refine ⟨_,_,[.pointer (some (adr c.w0.heap.size))],_,ap,fun h=>?_,fun h=>?_,Tryz.func135,by kernel_rfl,fun l w1 cx co vm evs node ev hl hw hk hn=>u_w hsep hnd hVM (fun e=>Iff.rfl) hae hl hw hk hn⟩
  ·have:p.block<c.w0.heap.size:=hb.m _ h;omega
  ·have:p.block=cnt∨p.block=c.w0.heap.size:=h;omega
 ·rcases hb' with rfl|rfl
  ·exact .inr (Nat.le_refl _)
  ·exact .inr (by omega)
 ·rcases hb' with rfl|rfl
  ·rw [Bc5.type ho];decide
  ·rw [Bae5.type ho];decide
 ·obtain ⟨-, n,hn,hk⟩:=hl;have hsm:=o_K (c:={ c with V:=fun b=>b=cnt∨b=c.w0.heap.size,St:=StU (badVu c) c.w0.heap.size cnt,w0:=w5,rf:=rf}) (ob:=obL [(0,p,C)]) h12 h12' hs;obtain ⟨k1,k2,k3⟩:=hk (lt_ (Nat.mul_le_mul_right _ (lt_ ht.few hsm)) (by decide));refine ⟨n,hn,k1,k3.trans ((ht.bad fun e hbad=>?_).trans ⟨?_,?_⟩)⟩
  ·cases e with
   | op o=>rfl
   | _=>cases hbad
  ·rintro ⟨e,hdoc,hbad⟩;cases e with
   | op o=>
    have ho:o∈c.ops:=u_t.1 hdoc;obtain ⟨y,hy,hno⟩:=hbad;exact ⟨o,ho,y.name,mm_.2 ⟨y,hy,rfl⟩,fun h=>hno ((u_n (ok1 o ho) ok2).2 h)⟩
   | _=>cases hbad
  ·rintro ⟨x,hx,n,hn,hno⟩;obtain ⟨y,hy,rfl⟩:=mm_.1 hn;exact ⟨.op x,u_t.2 hx,y,hy,fun h=>hno ((u_n (ok1 x hx) ok2).1 h)⟩
theorem u_e {P:Int->Prop}{wd:WorldD}{a1:OA}{l1 c1:Nat}{a2:OA}{l2 c2:Nat}{a6:OA}{l6 c6:Nat}{a7:OA}{l7 c7:Nat}{q8:OA}{q8l q8c:Nat}{q9:OA}{q9l q9c:Nat}{ops:List OpD}{frags:List Frag}{w:World}
  (hw:c_6 w wd [.slice a1 l1 c1,.slice a2 l2 c2,.string wd.query,.string wd.mutation,.string wd.subscription,.slice a6 l6 c6,.slice a7 l7 c7]) (ok3:∀ x∈wd.dirs,∀ y∈x.args,a_s y) (ok4:∀ x∈wd.types,okDef x)
  (few6:(pushD wd.types wd.possible).length<=4194304) (few7:(pushD wd.types wd.implements).length<=4194304) (hl1:ROps w q8 q8l q8c ops) (hl2:a_X w q9 q9l q9c frags) (ok1:∀ x∈ops,okOp x) (ok2:∀ x∈frags,b_j x) (hr:RuleOK 79 wd ops frags P) (hB0:DB.B<=w.heap.size):
  CP 30 #[.agg #[.slice a1 l1 c1,.slice a2 l2 c2,.string wd.query,.string wd.mutation,.string wd.subscription,.slice a6 l6 c6,.slice a7 l7 c7],.agg #[.slice q8 q8l q8c,.slice q9 q9l q9c]] w fun e w'=>
   ∃ n,e=.returned (.tuple #[.int .i64 n,.bool true])/\P n/\EF w w':=by
 have x11:EF w (w.alloc (.cells #[.slice a1 l1 c1,.slice a2 l2 c2,.string wd.query,.string wd.mutation,.string wd.subscription,.slice a6 l6 c6,.slice a7 l7 c7] 40)):=(Ext.refl w).alloc _;have x12:=x11.alloc (.cells #[.slice q8 q8l q8c,.slice q9 q9l q9c] 30);refine u_g a1 l1 c1 a2 l2 c2 wd.query wd.mutation wd.subscription a6 l6 c6 a7 l7 c7 q8 q8l q8c q9 q9l q9c w _ ⟨trivial,trivial,?_⟩;refine (j_d (c_6.keep x12.keep hw) ok3 ok4 few6 few7 (hl1.keep x12.keep) (hl2.keep x12.keep) ok1 ok2 hr (lt_ hB0 x12.size)).mono ?_;rintro _ w' ⟨n,rfl,hp,hx⟩;exact ⟨n,true,rfl,⟨hx.keepT _,hx.keepT _,trivial⟩,n,rfl,hp,x12.then hx⟩
theorem u_i
  {d1:OA} {d1l d1c:Nat} {d2:OA} {d2l d2c:Nat} {d3:OA} {d3l d3c:Nat} {d4:OA} {d4l d4c:Nat} {d5:OA} {d5l d5c:Nat} {q6:OA} {q6l q6c:Nat} {q7:OA} {q7l q7c:Nat} {defs exts:List SchemaDef} {dirs:List DirDef} {types texts:List Def} {ops:List OpD} {frags:List Frag} {w:World}
  (h1:a_p w d1 d1l d1c defs) (h2:a_p w d2 d2l d2c exts) (h3:a_Y w d3 d3l d3c dirs) (h4:RDefs w d4 d4l d4c types) (h5:RDefs w d5 d5l d5c texts) (hs:d1l+d2l<=4194304) (hsp:docW ops frags<=2097152) (h6:ROps w q6 q6l q6c ops) (h7:a_X w q7 q7l q7c frags) (hB0:DB.B<=w.heap.size):
  CP 7 #[.agg #[.slice d1 d1l d1c,.slice d2 d2l d2c,.slice d3 d3l d3c,.slice d4 d4l d4c,.slice d5 d5l d5c],.agg #[.slice q6 q6l q6c,.slice q7 q7l q7c]] w fun e w'=>e=.returned (.bool true)/\EF w w':=by
 have x8:EF w (w.alloc (.cells #[.slice d1 d1l d1c,.slice d2 d2l d2c,.slice d3 d3l d3c,.slice d4 d4l d4c,.slice d5 d5l d5c] 26)):=(Ext.refl w).alloc _;have x9:=x8.alloc (.cells #[.slice q6 q6l q6c,.slice q7 q7l q7c] 30);refine u_h d1 d1l d1c d2 d2l d2c d3 d3l d3c d4 d4l d4c d5 d5l d5c q6 q6l q6c q7 q7l q7c w _ ⟨trivial,trivial,fun K10 hK10=>?_⟩;have key10:∀ b w',EF w w'->K10 b w':=by
  intro b w' xw;refine hK10 b w' ⟨fun _=>⟨rfl,xw⟩,fun _=>?_⟩;refine (n_5 (h1.keep xw.keep) (h2.keep xw.keep) (h3.keep xw.keep) (h4.keep xw.keep) (h5.keep xw.keep) hs (lt_ hB0 xw.size)).mono ?_;rintro _ w14 ⟨q15,b16,rfl,x14,hok⟩;refine ⟨q15,b16,rfl,⟨x14.keepT _,x14.keepT _,trivial⟩,fun K17 hK17=>?_⟩;have y14:=xw.then x14;have key17:∀ b w',EF w14 w'->(b=false->b16=true/\ops.length<=12/\frags.length<=12/\(∀ x∈ops,okOp x)/\(∀ x∈frags,b_j x)/\SoundD types (a_F types defs) ops frags/\¬ ∃ x∈ops,¬ (nz (x.vars.map VarD.name)).Nodup)->K17 b w':=by
   intro b w19 x19 hb;have y19:=y14.then x19;refine hK17 b w19 ⟨fun _=>⟨rfl,y19⟩,fun hbf=>?_⟩;obtain ⟨hb16,n1,n2,ok1,ok2,hS,hP⟩:=hb hbf;obtain ⟨k,rfl,A,L,C,hB,hR,hO⟩:=hok hb16;intro w20 e20;have x20:EF w19 w20:=by rw [e20];exact (Ext.refl w19).drew
   have y20:=y19.then x20;have z20:=x19.then x20;refine (i_8 (hB.ext z20 id) (h4.keep y20.keep) (hR.keep z20.keep) (h3.keep y20.keep) hO.few.1 (fun t ht=>by have:=hO.small t ht;omega) hO.few.2 (lt_ hB0 y20.size)).mono ?_;rintro _ w22 ⟨cs,rfl,hW,x22⟩;obtain ⟨ok3,ok4,few6,few7⟩:=k_I hO;have hW':=hW;obtain ⟨a1,l1,c1,a2,l2,c2,a6,l6,c6,a7,l7,c7,rfl,-⟩:=hW';have y22:=y20.then x22;refine ⟨a1,l1,c1,a2,l2,c2,_,_,_,a6,l6,c6,a7,l7,c7,rfl,⟨x22.keepT _,x22.keepT _,trivial⟩,⟨rfl,trivial⟩,?_⟩;refine (u_e hW ok3 ok4 few6 few7 (h6.keep y22.keep) (h7.keep y22.keep) ok1 ok2 (u_x types dirs defs ops frags hO n1 n2 ok1 ok2 hsp hS hP) (lt_ hB0 y22.size)).mono ?_;rintro _ w31 ⟨n,rfl,⟨hn0,hn⟩,x31⟩;have y31:=y22.then x31;refine ⟨n,true,rfl,⟨x31.keepT _,x31.keepT _,trivial⟩,trivial,trivial,trivial,?_⟩;have z31:=(z20.then x22).then x31;refine (u_j (lt_ hB0 y31.size) (hB.ext z31 id) (h4.keep y31.keep) (hR.keep z31.keep) (h3.keep y31.keep) hO.few.2 (h6.keep y31.keep) (h7.keep y31.keep) ok1 ok2 hsp).mono ?_;rintro _ w35 ⟨b36,rfl,x35,hb36⟩;have y35:=y31.then x35;refine ⟨b36,rfl,⟨x35.keepT _,x35.keepT _,trivial⟩,?_⟩;refine (j_9 n true b36 w35).mono ?_;rintro _ w38 ⟨rfl,rfl⟩;refine ⟨_,rfl,⟨(Ext.refl _).keepT _,(Ext.refl _).keepT _,trivial⟩,?_,y35⟩;rw [n_f hn0 (hn.trans hb36.symm)]
  refine ⟨fun hb=>?_,fun hb=>key17 true w14 (Ext.refl w14) nofun⟩;refine (n_7 (h6.keep y14.keep) (h7.keep y14.keep)).mono ?_;rintro _ w41 ⟨b42,rfl,x41,hsm⟩;have y41:=y14.then x41;refine ⟨b42,rfl,⟨x41.keepT _,x41.keepT _,trivial⟩,fun h42=>?_,fun _=>key17 true w41 x41 nofun⟩;obtain ⟨n1,n2,ok1,ok2⟩:=hsm (by simpa using h42);obtain ⟨k,rfl,A,L,C,hB,hR,hO⟩:=hok (by simpa using hb);refine (i_c (hB.ext x41 id) (h4.keep y41.keep) (hR.keep x41.keep) (h6.keep y41.keep) (h7.keep y41.keep) ok1 ok2 n2 hsp).mono ?_;rintro _ w53 ⟨b54,rfl,x53,hS⟩;have z53:=x41.then x53;have y53:=y41.then x53;refine ⟨b54,rfl,⟨x53.keepT _,x53.keepT _,trivial⟩,fun h54=>?_,fun _=>key17 true w53 z53 nofun⟩;have hS':=hS (by simpa using h54);refine (u_o (h6.keep y53.keep) (h7.keep y53.keep)).mono ?_;rintro _ w56 ⟨b57,rfl,x56,hP⟩;exact ⟨b57,rfl,⟨x56.keepT _,x56.keepT _,trivial⟩,key17 _ w56 (z53.then x56) fun h=>⟨by simpa using hb,n1,n2,ok1,ok2,hS',fun k=>by rw [hP.2 k] at h;cases h⟩⟩
 refine (f_4 d1 d1l d1c d2 d2l d2c d3 d3l d3c d4 d4l d4c d5 d5l d5c _).mono ?_;rintro _ w44 ⟨b45,rfl,x44,-⟩;have y44:=x9.then x44;refine ⟨b45,rfl,⟨x44.keepT _,x44.keepT _,trivial⟩,fun _=>?_,fun _=>key10 true w44 y44⟩;refine (f_5 q6 q6l q6c q7 q7l q7c _).mono ?_;rintro _ w47 ⟨b48,rfl,x47,-⟩;exact ⟨b48,rfl,⟨x47.keepT _,x47.keepT _,trivial⟩,key10 _ w47 (y44.then x47)⟩
end Go.VC
