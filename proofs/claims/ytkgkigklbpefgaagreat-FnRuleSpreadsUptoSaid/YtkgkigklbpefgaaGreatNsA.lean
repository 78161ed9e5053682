/- Part of the proof of a law of a rule over documents (NsA), where what the arguments hold is of bulk at most 1048576. -/
import Derived.Test.YtkgkigklbpefgaaGreatBaseB
import Derived.Test.YtkgkigklbpefgaaGreatWalkD
import Derived.Test.YtkgkigklbpefgaaGreatReadA
import Derived.Test.YtkgkigklbpefgaaGreatSpecE
import Derived.Test.YtkgkigklbpefgaaGreatWalkC
import Derived.Test.YtkgkigklbpefgaaGreatLawA
import Derived.Test.YtkgkigklbpefgaaGreatSpecD
set_option linter.unusedVariables false
set_option linter.unusedSectionVars false
namespace Go.VC
open Go Go.Proofs
set_option maxRecDepth 100000
theorem s_G (a:OA)(b:Value)(w:World)(R:EW)(h:
 (b.oneCell'=true/\True)/\(let c:=w.alloc (.cells #[b] 161);
 (Value.nilFunc.oneCell'=true/\True)/\(let d:=c.alloc (.cells #[Value.nilFunc] 219);
 Off d (adr c.heap.size) 1 []/\True/\(let e:=(d.setCell (adr c.heap.size) (.func (.func 121) #[] #[]));
 C0 124 #[.pointer a,(.func (.func 125) #[] #[(.pointer (some (adr c.heap.size))),(.pointer (some (adr w.heap.size)))])] e (fun f=>True/\C0 127 #[.pointer a,(.func (.func 128) #[] #[(.pointer (some (adr c.heap.size))),(.pointer (some (adr w.heap.size)))])] f (fun g=>True/\R (.returned (.tuple #[])) g)))))):CP 70 #[.pointer a,b] w R:=
 vcq Tryz.func70 [] [] [.l (.optr a),.l (.val b)] h
theorem s_B (a:OA)(b:OA)(c:BA)(d:Value)(w:World)(R:EW)(h:
 (Br (b.isNone) (R (.returned (.tuple #[])) w) (∀ e:OA->Nat->Nat->World->Prop,(∀ (f:OA) (g i:Nat),∀ j:World,
 (Pt a fun k=>Lp j (k.add 1) fun l=>Pt l fun m=>Lm j (m.add 4) fun n=>∃ o,(Instr.lookup 214 (.map n) (.string c) false).run Tryz.prog j=.ok (.pointer o) j/\(Br (o.isNone) (R (.returned (.tuple #[])) j) (Cb 123 #[.pointer o] j (fun p q=>True/\(Br (!p) (R (.returned (.tuple #[])) q) (Pt a fun r=>Lp q (r.add 1) fun s=>Cl 122 #[.pointer s,.pointer o] q (fun t u v x=>True/\∃ (y:Int->World->Prop) (z:Int->World->Nat),y 0 x/\
 (∀ A:Int,∀ B:World,y A B->
 (Br (decide (A<(u:Int))) (Ix t A u fun C=>Lp B (C.add (A.toNat*1)) fun D=>∃ (E:Int->World->Prop) (F:Int->World->Nat),E 0 B/\
 (∀ G:Int,∀ H:World,E G H->
 (Br (decide (G<(g:Int))) (Ix f G g fun I=>Lp H (I.add (G.toNat*1)) fun J=>∀ K,K=H.drew->Pt J fun L=>Ls K (L.add 2) fun M=>Pt D fun N=>Ls K (N.add 2) fun O=>(Br (M.toList==O.toList) (R (.returned (.tuple #[])) K) ((E (wr (G+1)) K/\F (wr (G+1)) K<F G H)))) ((y (wr (A+1)) H/\z (wr (A+1)) H<z A B))))) (∃ P Q,d=.func (.func P) #[] Q.toArray/\∃ S,Tryz.prog.funcs[P]? =some S/\(S.name== "runtime.NumGoroutine" ||S.body.isNone)=false/\CP P ([]++Q).toArray B (fun U V=>U=.returned (.tuple #[])/\True/\R (.returned (.tuple #[])) V)))))))))))->
 e f g i j)->
 Pt b fun W=>Ls w W fun X=>(Br (X.toList==(⟨#[79,66,74,69,67,84]⟩:BA).toList) (True/\(let Y:=w.alloc (.cells #[.pointer b] 175);
 e (some (adr w.heap.size)) 1 1 Y)) (∀ Z:Bool->World->Prop,(∀ aa:Bool,∀ ab:World,
 ((Br aa (Pt a fun ac=>Lp ab (ac.add 1) fun ad=>Cl 122 #[.pointer ad,.pointer b] ab (fun ae af ag ah=>True/\e ae af ag ah)) (R (.returned (.tuple #[])) ab)))->
 Z aa ab)->
 (Br (X.toList==(⟨#[73,78,84,69,82,70,65,67,69]⟩:BA).toList) (Z true w) (Z (X.toList==(⟨#[85,78,73,79,78]⟩:BA).toList) w))))))):CP 121 #[.pointer a,.pointer b,.string c,d] w R:=
 vcq Tryz.func121 [] [(8,⟨[(8,.slice)],[]⟩),(16,⟨[(25,.bool)],[]⟩),(45,⟨[(56,.int .i64)],[]⟩),(59,⟨[(62,.int .i64)],[]⟩)] [.l (.optr a),.l (.optr b),.l (.str c),.l (.val d)] h
theorem s_E (a:OA)(b:OA)(c:Addr)(d:Addr)(w:World)(R:EW)(h:
 True/\(let e:=w.alloc (.cells #[.pointer b] 221);
 ∀ f,f=e.drew->Lv f c fun g=>Lp f (adr w.heap.size) fun i=>Pt i fun j=>Lp f (j.add 3) fun k=>Lp f (adr w.heap.size) fun l=>Pt l fun m=>Ls f m fun n=>∃ o p,g=.func (.func o) #[] p.toArray/\∃ q,Tryz.prog.funcs[o]? =some q/\(q.name== "runtime.NumGoroutine" ||q.body.isNone)=false/\CP o ([.pointer a,.pointer k,.string n,(.func (.func 126) #[] #[(.pointer (some d)),(.pointer (some (adr w.heap.size)))])]++p).toArray f (fun r s=>r=.returned (.tuple #[])/\True/\True/\R (.returned (.tuple #[])) s))):CP 125 #[.pointer a,.pointer b,(.pointer (some c)),(.pointer (some d))] w R:=
 vcq Tryz.func125 [] [] [.l (.optr a),.l (.optr b),.l (.ptr c),.l (.ptr d)] h
theorem s_F (a:OA)(b:OA)(c:Addr)(d:Addr)(w:World)(R:EW)(h:
 True/\(let e:=w.alloc (.cells #[.pointer b] 228);
 Lp e (adr w.heap.size) fun f=>Pt f fun g=>Lp e (g.add 3) fun i=>(Br (i.isNone) (R (.returned (.tuple #[])) e) (∀ j,j=e.drew->Lv j c fun k=>Lp j (adr w.heap.size) fun l=>Pt l fun m=>Lp j (m.add 2) fun n=>Lp j (adr w.heap.size) fun o=>Pt o fun p=>Lp j (p.add 3) fun q=>Pt q fun r=>Ls j (r.add 3) fun s=>∃ t u,k=.func (.func t) #[] u.toArray/\∃ v,Tryz.prog.funcs[t]? =some v/\(v.name== "runtime.NumGoroutine" ||v.body.isNone)=false/\CP t ([.pointer a,.pointer n,.string s,(.func (.func 129) #[] #[(.pointer (some d)),(.pointer (some (adr w.heap.size)))])]++u).toArray j (fun x y=>x=.returned (.tuple #[])/\True/\True/\R (.returned (.tuple #[])) y))))):CP 128 #[.pointer a,.pointer b,(.pointer (some c)),(.pointer (some d))] w R:=
 vcq Tryz.func128 [] [] [.l (.optr a),.l (.optr b),.l (.ptr c),.l (.ptr d)] h
theorem s_C (a:Addr)(b:Addr)(w:World)(R:EW)(h:
 ∀ c,c=w.drew->Lv c a fun d=>Lp c b fun e=>Pt e fun f=>Lp c (f.add 3) fun g=>Pt g fun i=>Ls c (i.add 2) fun j=>Lp c b fun k=>Pt k fun l=>Ls c l fun m=>Lp c b fun n=>Pt n fun o=>Lp c (o.add 4) fun p=>True/\(let q:=c.alloc (.cells #[(ifcV (some (9,(.string j)))),(ifcV (some (9,(.string m))))] 20);
 ((q.cell? (o.add 4)=c.cell? (o.add 4))/\(q.cell? b=c.cell? b)/\(q.cell? a=c.cell? a)/\True)/\CP 116 #[(.string (⟨#[70,114,97,103,109,101,110,116,32,99,97,110,110,111,116,32,98,101,32,115,112,114,101,97,100,32,104,101,114,101,32,97,115,32,111,98,106,101,99,116,115,32,111,102,32,116,121,112,101,32,34,37,115,34,32,99,97,110,32,110,101,118,101,114,32,98,101,32,111,102,32,116,121,112,101,32,34,37,115,34,46]⟩:BA)),(.slice (some (adr c.heap.size)) 2 2)] q (fun r s=>∃ t:Value,r=.returned t/\True/\((s.cell? (o.add 4)=q.cell? (o.add 4))/\(s.cell? b=q.cell? b)/\(s.cell? a=q.cell? a)/\True)/\CP 117 #[.pointer p] s (fun u v=>∃ x:Value,u=.returned x/\True/\((v.cell? a=s.cell? a)/\True)/\(t.oneCell'=true/\x.oneCell'=true/\True)/\(let y:=v.alloc (.cells #[t,x] 181);
 ((y.cell? a=v.cell? a)/\True)/\∃ z A,d=.func (.func z) #[] A.toArray/\∃ B,Tryz.prog.funcs[z]? =some B/\(B.name== "runtime.NumGoroutine" ||B.body.isNone)=false/\CP z ([(.slice (some (adr v.heap.size)) 2 2)]++A).toArray y (fun C D=>C=.returned (.tuple #[])/\True/\True/\R (.returned (.tuple #[])) D)))))):CP 126 #[(.pointer (some a)),(.pointer (some b))] w R:=
 vcq Tryz.func126 [] [] [.l (.ptr a),.l (.ptr b)] h
theorem s_D (a:Addr)(b:Addr)(w:World)(R:EW)(h:
 ∀ c,c=w.drew->Lv c a fun d=>Lp c b fun e=>Pt e fun f=>Ls c f fun g=>Lp c b fun i=>Pt i fun j=>Lp c (j.add 2) fun k=>Pt k fun l=>Ls c (l.add 2) fun m=>Lp c b fun n=>Pt n fun o=>Lp c (o.add 3) fun p=>Pt p fun q=>Ls c (q.add 3) fun r=>Lp c b fun s=>Pt s fun t=>Lp c (t.add 4) fun u=>True/\(let v:=c.alloc (.cells #[(ifcV (some (9,(.string g)))),(ifcV (some (9,(.string m)))),(ifcV (some (9,(.string r))))] 20);
 ((v.cell? (t.add 4)=c.cell? (t.add 4))/\(v.cell? b=c.cell? b)/\(v.cell? a=c.cell? a)/\True)/\CP 116 #[(.string (⟨#[70,114,97,103,109,101,110,116,32,34,37,115,34,32,99,97,110,110,111,116,32,98,101,32,115,112,114,101,97,100,32,104,101,114,101,32,97,115,32,111,98,106,101,99,116,115,32,111,102,32,116,121,112,101,32,34,37,115,34,32,99,97,110,32,110,101,118,101,114,32,98,101,32,111,102,32,116,121,112,101,32,34,37,115,34,46]⟩:BA)),(.slice (some (adr c.heap.size)) 3 3)] v (fun x y=>∃ z:Value,x=.returned z/\True/\((y.cell? (t.add 4)=v.cell? (t.add 4))/\(y.cell? b=v.cell? b)/\(y.cell? a=v.cell? a)/\True)/\CP 117 #[.pointer u] y (fun A B=>∃ C:Value,A=.returned C/\True/\((B.cell? a=y.cell? a)/\True)/\(z.oneCell'=true/\C.oneCell'=true/\True)/\(let D:=B.alloc (.cells #[z,C] 181);
 ((D.cell? a=B.cell? a)/\True)/\∃ E F,d=.func (.func E) #[] F.toArray/\∃ G,Tryz.prog.funcs[E]? =some G/\(G.name== "runtime.NumGoroutine" ||G.body.isNone)=false/\CP E ([(.slice (some (adr B.heap.size)) 2 2)]++F).toArray D (fun H I=>H=.returned (.tuple #[])/\True/\True/\R (.returned (.tuple #[])) I)))))):CP 129 #[(.pointer (some a)),(.pointer (some b))] w R:=
 vcq Tryz.func129 [] [] [.l (.ptr a),.l (.ptr b)] h
theorem s_O (a:OA)(b:OA)(w:World)(R:EW)(h:
 ∀ c,c=w.drew->Pt a fun d=>Lm c (d.add 6) fun e=>Pt b fun f=>Ls c (f.add 2) fun g=>∃ i j k,(Instr.lookup 216 (.map e) (.string g) false).run Tryz.prog c=.ok (.slice i j k) c/\True/\R (.returned (.slice i j k)) c):CP 122 #[.pointer a,.pointer b] w R:=
 vcq Tryz.func122 [] [] [.l (.optr a),.l (.optr b)] h
theorem s_H (a:OA)(w:World)(R:EW)(h:
 ∀ b:Bool->World->Prop,(∀ c:Bool,∀ d:World,
 (R (.returned (.bool c)) d)->
 b c d)->
 Pt a fun e=>Ls w e fun f=>(Nr (f.toList==(⟨#[79,66,74,69,67,84]⟩:BA).toList) (Pt a fun g=>Ls w g fun i=>(Nr (i.toList==(⟨#[73,78,84,69,82,70,65,67,69]⟩:BA).toList) (Pt a fun j=>Ls w j fun k=>b (k.toList==(⟨#[85,78,73,79,78]⟩:BA).toList) w) (b true w))) (b true w))):CP 123 #[.pointer a] w R:=
 vcq Tryz.func123 [] [(2,⟨[(2,.bool)],[]⟩)] [.l (.optr a)] h
theorem s_J (a:OA)(b c:Nat)(d:OA)(e f:Nat)(g:BA)(i:BA)(j:BA)(k:OA)(l m:Nat)(n:OA)(o p:Nat)(q:OA)(r s:Nat)(t:OA)(u v:Nat)(w:World)(R:EW)(h:
 True/\(let x:=w.alloc (.cells #[.slice a b c,.slice d e f,.string g,.string i,.string j,.slice k l m,.slice n o p] 40);
 True/\(let y:=x.alloc (.cells #[.slice q r s,.slice t u v] 30);
 CP 56 #[(.agg #[.slice a b c,.slice d e f,.string g,.string i,.string j,.slice k l m,.slice n o p]),(.agg #[.slice q r s,.slice t u v]),(.func (.func 70) #[] #[])] y (fun z A=>∃ B,∃ C,z=.returned (.tuple #[.int .i64 B,.bool C])/\(KeepT 40 y A/\KeepT 30 y A/\True)/\R (.returned (.tuple #[.int .i64 B,.bool C])) A)))):CP 25 #[(.agg #[.slice a b c,.slice d e f,.string g,.string i,.string j,.slice k l m,.slice n o p]),(.agg #[.slice q r s,.slice t u v])] w R:=
 vcq Tryz.func25 [2,3] [] [.agg [.slice a b c,.slice d e f,.str g,.str i,.str j,.slice k l m,.slice n o p],.agg [.slice q r s,.slice t u v]] h
theorem s_U (a:OA)(b c:Nat)(d:OA)(e f:Nat)(g:OA)(i j:Nat)(k:OA)(l m:Nat)(n:OA)(o p:Nat)(q:OA)(r s:Nat)(t:OA)(u v:Nat)(w:World)(R:EW)(h:
 True/\(let x:=w.alloc (.cells #[.slice a b c,.slice d e f,.slice g i j,.slice k l m,.slice n o p] 26);
 True/\(let y:=x.alloc (.cells #[.slice q r s,.slice t u v] 30);
 ∀ z:Bool->World->Prop,(∀ A:Bool,∀ B:World,
 ((Br A (R (.returned (.bool true)) B) (CP 13 #[(.agg #[.slice a b c,.slice d e f,.slice g i j,.slice k l m,.slice n o p])] B (fun C D=>∃ E,∃ F,C=.returned (.tuple #[.pointer E,.bool F])/\(KeepT 26 B D/\KeepT 30 B D/\True)/\∀ G:Bool->World->Prop,(∀ H:Bool,∀ I:World,
 ((Br H (R (.returned (.bool true)) I) (∀ J,J=I.drew->CP 18 #[.pointer E] J (fun K L=>∃ M N O,∃ P Q S,∃ U,∃ V,∃ W,∃ X Y Z,∃ aa ab ac,K=.returned (.agg #[.slice M N O,.slice P Q S,.string U,.string V,.string W,.slice X Y Z,.slice aa ab ac])/\(KeepT 26 J L/\KeepT 30 J L/\True)/\((0=0)/\True)/\CP 25 #[(.agg #[.slice M N O,.slice P Q S,.string U,.string V,.string W,.slice X Y Z,.slice aa ab ac]),(.agg #[.slice q r s,.slice t u v])] L (fun ad ae=>∃ af,∃ ag,ad=.returned (.tuple #[.int .i64 af,.bool ag])/\(KeepT 26 L ae/\KeepT 30 L ae/\True)/\True/\True/\True/\Cb 26 #[.pointer E,(.agg #[.slice q r s,.slice t u v])] ae (fun ah ai=>(KeepT 26 ae ai/\KeepT 30 ae ai/\True)/\Cb 19 #[.int .i64 af,.bool ag,.bool ah] ai (fun aj ak=>(KeepT 26 ai ak/\KeepT 30 ai ak/\True)/\R (.returned (.bool aj)) ak)))))))->
 G H I)->
 (Nr (!F) (Cb 14 #[(.agg #[.slice q r s,.slice t u v])] D (fun al am=>(KeepT 26 D am/\KeepT 30 D am/\True)/\(Nr (!al) (Cb 15 #[.pointer E,(.agg #[.slice q r s,.slice t u v])] am (fun an ao=>(KeepT 26 am ao/\KeepT 30 am ao/\True)/\(Nr (!an) (Cb 24 #[.pointer E] ao (fun ap aq=>(KeepT 26 ao aq/\KeepT 30 ao aq/\True)/\G (!ap) aq)) (G true ao)))) (G true am)))) (G true D))))))->
 z A B)->
 Cb 11 #[(.agg #[.slice a b c,.slice d e f,.slice g i j,.slice k l m,.slice n o p])] y (fun ar au=>(KeepT 26 y au/\KeepT 30 y au/\True)/\(Nr (!ar) (Cb 12 #[(.agg #[.slice q r s,.slice t u v])] au (fun av ax=>(KeepT 26 au ax/\KeepT 30 au ax/\True)/\z (!av) ax)) (z true au)))))):CP 5 #[(.agg #[.slice a b c,.slice d e f,.slice g i j,.slice k l m,.slice n o p]),(.agg #[.slice q r s,.slice t u v])] w R:=
 vcq Tryz.func5 [2,3] [(3,⟨[(16,.bool)],[]⟩),(13,⟨[(39,.bool)],[]⟩)] [.agg [.slice a b c,.slice d e f,.slice g i j,.slice k l m,.slice n o p],.agg [.slice q r s,.slice t u v]] h
set_option maxRecDepth 100000
theorem s_N (a:OA)(b:Value)(w:World)(R:EW)(h:
 Pt a fun c=>Ll w (c.add 3) fun d e f=>(b.oneCell'=true/\True)/\(let g:=w.alloc (.cells #[b] 226);
 Ap 150 (.slice d e f) (.slice (some (adr w.heap.size)) 1 1) g fun i j k l=>True/\Pt a fun m=>Off l (m.add 3) 1 []/\True/\(let n:=(l.setCell (m.add 3) (.slice i j k));
 R (.returned (.tuple #[])) n))):CP 124 #[.pointer a,b] w R:=
 vcq Tryz.func124 [] [] [.l (.optr a),.l (.val b)] h
variable [DB]
theorem s_L {eb:Nat}{f:Value}{evs:List Value}{w:World}(hf:a_v f)(hB:Blk w eb 157 evs)(hj:evs[3]? =some (.slice none 0 0)):
  CP 124 #[.pointer (some (adr eb)),f] w fun e w'=>e=.returned (.tuple #[])/\∃ (p:Addr) (C:Nat),Blk w' eb 157 (evs.set 3 (.slice (some p) 1 C))/\At w' 226 p f/\w.heap.size<=p.block/\Ext (fun b=>b=eb) w w':=by
 obtain ⟨p,C,w7,r7,ha,hp,hx,-⟩:=m_z 150 226 Tryz.t226 _ _ (by kernel_rfl) (by kernel_rfl) rfl (by kernel_rfl) rfl (by kernel_rfl) (by decide) (w:=w) hf 150 #[false,false];have hB7:=hB.ext hx id;have hlt:=hB.lt;have hl:3+1<=evs.length:=(List.getElem?_eq_some_iff.1 hj).1;have hs:Ext (fun b=>b=eb) w7 (w7.setCell ⟨eb,3,none⟩ (.slice (some p) 1 C)):=Ext.setCell (X:=fun b=>b=eb) (Ext.refl _) (a:=⟨eb,3,none⟩) (.inl rfl) _;refine s_N (some (adr eb)) f w _ ⟨adr eb,rfl,none,0,0,(hB.at (j:=3) hj).cell,⟨hf.one,trivial⟩,some p,1,C,w7,r7,trivial,adr eb,rfl,hB7.off (j:=3) (n:=1) (q:=fun _=>false) hl rfl,trivial,rfl,p,C,hB7.set 3 _,hs.at (by show ¬ p.block=eb;omega) ha,hp,(hx.toM _).trans hs fun _ _ e=>e⟩
end Go.VC
namespace Go.VC
open Go Go.Proofs
set_option maxRecDepth 100000
theorem s_M (a:OA)(b:Value)(w:World)(R:EW)(h:
 Pt a fun c=>Ll w (c.add 4) fun d e f=>(b.oneCell'=true/\True)/\(let g:=w.alloc (.cells #[b] 236);
 Ap 151 (.slice d e f) (.slice (some (adr w.heap.size)) 1 1) g fun i j k l=>True/\Pt a fun m=>Off l (m.add 4) 1 []/\True/\(let n:=(l.setCell (m.add 4) (.slice i j k));
 R (.returned (.tuple #[])) n))):CP 127 #[.pointer a,b] w R:=
 vcq Tryz.func127 [] [] [.l (.optr a),.l (.val b)] h
variable [DB]
theorem s_K {eb:Nat}{f:Value}{evs:List Value}{w:World}(hf:a_v f)(hB:Blk w eb 157 evs)(hj:evs[4]? =some (.slice none 0 0)):
  CP 127 #[.pointer (some (adr eb)),f] w fun e w'=>e=.returned (.tuple #[])/\∃ (p:Addr) (C:Nat),Blk w' eb 157 (evs.set 4 (.slice (some p) 1 C))/\At w' 236 p f/\w.heap.size<=p.block/\Ext (fun b=>b=eb) w w':=by
 obtain ⟨p,C,w7,r7,ha,hp,hx,-⟩:=m_z 151 236 Tryz.t236 _ _ (by kernel_rfl) (by kernel_rfl) rfl (by kernel_rfl) rfl (by kernel_rfl) (by decide) (w:=w) hf 151 #[false,false];have hB7:=hB.ext hx id;have hlt:=hB.lt;have hl:4+1<=evs.length:=(List.getElem?_eq_some_iff.1 hj).1;have hs:Ext (fun b=>b=eb) w7 (w7.setCell ⟨eb,4,none⟩ (.slice (some p) 1 C)):=Ext.setCell (X:=fun b=>b=eb) (Ext.refl _) (a:=⟨eb,4,none⟩) (.inl rfl) _;refine s_M (some (adr eb)) f w _ ⟨adr eb,rfl,none,0,0,(hB.at (j:=4) hj).cell,⟨hf.one,trivial⟩,some p,1,C,w7,r7,trivial,adr eb,rfl,hB7.off (j:=4) (n:=1) (q:=fun _=>false) hl rfl,trivial,rfl,p,C,hB7.set 4 _,hs.at (by show ¬ p.block=eb;omega) ha,hp,(hx.toM _).trans hs fun _ _ e=>e⟩
end Go.VC
namespace Go.VC
open Go Go.Proofs
set_option maxRecDepth 100000
set_option maxRecDepth 100000
variable [DB]
end Go.VC
namespace Go.VC
open Go Go.Proofs
set_option maxRecDepth 100000
variable [DB]
end Go.VC
namespace Go.VC
open Go Go.Proofs
set_option maxRecDepth 100000
variable [DB]
theorem SSt.bool {w w':World}{ob:Nat}{v:Value}(hB:Blk w ob 4 [v])(hDB:DB.B<=ob)(hx:Ext (fun b=>b=ob) w w'):SSt (fun b=>b=ob) w w':=by
 refine ⟨hx,fun T T' a v' ht ho ha=>?_,fun T hT b cs fr hb=>?_⟩
 ·by_cases he:a.block=ob
  ·obtain ⟨cs,fr,h1,-⟩:=ha;rw [he,show objAt w ob=_ from hB] at h1;simp only [Option.some.injEq,Obj.cells.injEq] at h1;obtain ⟨-, rfl,-⟩:=h1;rcases ho with rfl|ho
   ·exact absurd ht (by decide)
   ·omega
  ·exact hx.at he ha
 ·refine hx.old b _ (fun e=>?_) hb;have e:b=ob:=e;subst e;rw [show objAt w b=_ from hB] at hb;simp only [Option.some.injEq,Obj.cells.injEq] at hb;obtain ⟨-, rfl,-⟩:=hb;exact absurd hT (by decide)
abbrev compK (k:BA):Prop:=k=a_V∨k=b_i∨k=d_n
def bad1 (types:List Def)(k:Int)(n:BA)(m:Nat)(u:BA):Prop:=k=0/\(b_K types u n).2=true/\¬ (compK (findD types (a_n (b_K types u n).1.t)).1.kind↔0<m)
def badLf (types:List Def)(x:Sel × BA):Prop:=match x.1 with
 | .mk k _ n _ _ _ kids=>bad1 types k n kids.length x.2∨(k=0/\n=bTn/\0<kids.length)
section
variable {k:Nat} {A4:OA} {L4 C4:Nat} {A:OA} {L C:Nat} {A3:OA} {L3 C3:Nat} {types:List Def}
def PLf (k:Nat)(A4:OA)(L4 C4:Nat)(A:OA)(L C:Nat)(A3:OA)(L3 C3:Nat)(types:List Def)(wb ob:Nat)(l:List (Sel × BA))(w:World):Prop:=
 Blk w wb 33 [.pointer (some (adr k))]/\Blk w k 79 [.slice A4 L4 C4,.slice A L C,.slice A3 L3 C3]/\RDefs w A4 L4 C4 types/\∃ b:Bool,Blk w ob 4 [.bool b]/\(b=true↔∃ x∈l,badLf types x)
end
theorem Base.look {c:WCtx}{cx:Option OpD}{co:OA}{vm:Nat}{evs:List Value}{w w':World}(hb:Base c)(hw:Wst c cx co vm evs w)(hx:EF w w'):w'.cell? ⟨c.wb,1,none⟩=some (.pointer (some (adr c.sb)))/\w'.cell? ⟨c.sb,4,none⟩=some (.map (some c.m1))/\
  ∀ u,∃ q,(Instr.lookup 214 (.map (some c.m1)) (.string u) false).run Tryz.prog w'=.ok (.pointer q) w'/\OptQ (PDef c.M c.w0) (lastN Def.name c.types u) q:=by
 obtain ⟨q1,q2,q3,s,hS,-⟩:=hb.sch;have hwk:=hw.wk.trans (Wk.ofExt hx fun _ _=>id);exact ⟨((hw.walker.ext hx id).at (j:=1) rfl).cell,hwk.nd hb.sb hS (j:=4) rfl rfl,fun u=>VC.tlook (hwk.smap hb.m1.1 hb.m1.2.1) hb.m1.2.2 u⟩
theorem ceqn {w0 w1 w2:World}(y:EF w0 w1)(x:EF w1 w2){a:Addr}{v:Value}(h:w0.cell? a=some v):w2.cell? a=w1.cell? a:=x.cell_eq id ((y.cell_eq id h).trans h)
abbrev leafK (k:BA):Prop:=k=kEnum∨k=d_m
def g_n (c:WCtx)(pd:Option Def)(n:BA)(m:Nat):Prop:=∃ f d,fldD pd n=some f/\lastN Def.name c.types (a_w f.t)=some d/\((leafK d.kind/\0<m)∨(¬ leafK d.kind/\m=0))
def k_O (c:WCtx):Ev->Prop
 | .fld (.mk _ _ n _ _ _ kids) pd=>g_n c pd n kids.length
 | _=>False
def StL (bad:Ev->Prop)(ae cnt sg:Nat)(l:List Ev)(w:World):Prop:=StB bad ae cnt l w/\Blk w sg 4 [.bool false]
section
variable {c:WCtx} {ae cnt sg:Nat} {bad:Ev->Prop} {l:List Ev} {w:World} {cx:Option OpD} {co:OA} {vm:Nat} {evs:List Value} {node:Value} {ev:Ev}
end
mutual
def flS (tys:List Def):Option Def->Sel->List (Sel × Option Def)
 | pd,.mk k al n on args dirs kids=>if k=0 then (.mk k al n on args dirs kids,pd)::flL tys (nextD tys pd n) kids else if k=1 then [] else flL tys (inlD tys pd on) kids
def flL (tys:List Def):Option Def->List Sel->List (Sel × Option Def)
 | _,[]=>[]
 | pd,s::l=>flS tys pd s++flL tys pd l
end
section
variable {tys:List Def} {fs:List Frag} {cx:Option OpD}
end
theorem e_z {types:List Def}{u:BA}(h:(findD types u).2=false):(findD types u).1=noDef:=by
 unfold findD at h ⊢;split
 ·rename_i d hd;simp [hd] at h
 ·split
  ·rename_i h1 h2;simp [h1,h2] at h
  ·rfl
theorem k_Y {types:List Def}{u:BA}(h:(findD types u).2=true):(findD types u).1∈a_P++types:=by
 unfold findD at h ⊢;split
 ·rename_i d hd;exact ma_.2 (.inr (List.mem_of_find?_eq_some hd))
 ·split
  ·rename_i h2;exact ma_.2 (.inl (mm_.2 ⟨u,d_x.1 h2,rfl⟩))
  ·rename_i h1 h2;simp [h1,h2] at h
theorem baseName_eq':∀ t:Typ,a_n t=a_w t
 | .mk n [] nn=>rfl
 | .mk n (t::l) nn=>baseName_eq' t
def Rel (types:List Def)(u:BA)(pd:Option Def):Prop:=∀ n,n≠bTn->fldD pd n=b_e types u n/\∀ f,b_e types u n=some f->(findD types (a_n f.t)).1.kind≠E0/\(findD types (a_n f.t)).1.kind≠b_f
theorem o_U {pd:Option Def}{n:BA}(hn:n≠bTn):fldD pd n=pd.bind fun d=>a_h Fld.name d.fields n:=by rw [fldD,if_neg hn]
theorem o_I {types:List Def}{u:BA}{pd:Option Def}(h1:∀ d,pd=some d->d.fields=[])(h2:(findD types u).1=noDef):Rel types u pd:=fun n hn=>by
 have hS:b_e types u n=none:=by
  rw [b_e,if_neg fun k=>hn k.1,h2,if_neg];rintro (h|h)<;>exact absurd h (by decide)
 refine ⟨?_,fun f h=>by rw [hS] at h;cases h⟩;rw [hS,o_U hn];cases pd with
 | none=>rfl
 | some d=>
  show a_h Fld.name d.fields n=none;rw [h1 d rfl];rfl
section
variable {types:List Def} {dirs:List DirDef} {defs:List SchemaDef}
theorem e_A (hO:OkSchema types dirs defs){s:BA}(h:s∈scal):findD types s=(a_A s,true):=by
 have:types.find? (fun d=>d.name.toList==s.toList)=none:=by
  rw [List.find?_eq_none];intro x hx he;have he:x.name=s:=a_b.1 (by simpa using he);exact (hO.names.2 x.name (mm_.2 ⟨x,hx,rfl⟩)).2 (he▸h)
 unfold findD;rw [this];simp only [];rw [if_pos (d_x.2 h)]
theorem f_M:bStr∈scal:=.tail _ (.tail _ (.head _))
theorem j_O (hO:OkSchema types dirs defs){u:BA}(h:(findD types u).1.kind≠b_f):Rel types u (lastN Def.name (a_P++types) u):=by
 rw [c_N hO];cases hf:(findD types u).2 with
 | false=>exact o_I (fun d hd=>by simp at hd) (e_z hf)
 | true=>
  intro n hn;have hd:b_e types u n=if (findD types u).1.kind=a_V∨(findD types u).1.kind=b_i then a_h Fld.name (findD types u).1.fields n else none:=by rw [b_e,if_neg fun k=>hn k.1]
  rw [if_pos rfl,o_U hn];have hm:=k_Y hf;generalize (findD types u).1=d at *;show a_h Fld.name d.fields n=_/\_;by_cases hk:d.kind=a_V∨d.kind=b_i
  ·rw [if_pos hk] at hd;refine ⟨hd.symm,fun f hf=>?_⟩;rw [hd] at hf;have hfm:=(a_U hf).1;rcases ma_.1 hm with hm|hm
   ·obtain ⟨s,-, rfl⟩:=mm_.1 hm;simp [a_A] at hfm
   ·exact ((hO.simple d hm).2.1 f hfm).2.2.2.2.2 h
  ·rw [if_neg hk] at hd;have hfl:d.fields=[]:=by
    rcases ((k_I (roots:=[]) hO).2.1 d hm).2.2.2.2 with k|k|k|k
    ·exact k
    ·exact (hk (.inl k)).elim
    ·exact (hk (.inr k)).elim
    ·exact absurd k h
   refine ⟨by rw [hd,hfl];rfl,fun f hf=>by rw [hd] at hf;cases hf⟩
theorem o_N {types:List Def}{u:BA}{k:Int}{al n on:BA}{args:List Argm}{ds:List Dir}{kids:List Sel}:atS types u (.mk k al n on args ds kids)=(.mk k al n on args ds kids,u)::atL types (downS types u k n on) kids:=by rw [atS]
def walkB (c:WCtx)(x:Sel × Option Def):Prop:=k_O c (.fld x.1 x.2)
end
abbrev leafD (types:List Def)(roots:List RootD)(ops:List OpD)(frags:List Frag):Prop:=∃ x∈atAll types roots ops frags,badLf types x
end Go.VC
namespace Go.VC
open Go Go.Proofs
set_option maxRecDepth 100000
theorem s_X (a:OA)(b:OA)(c d:Nat)(e:OA)(f g:Nat)(w:World)(R:EW)(h:
 True/\(let i:=w.alloc (.cells #[.pointer a] 33);
 True/\(let j:=i.alloc (.cells #[.slice b c d,.slice e f g] 30);
 True/\(let k:=j.alloc (.cells #[.bool false] 4);
 Off k (adr j.heap.size) 1 []/\True/\(let l:=(k.setCell (adr j.heap.size) (.bool false));
 Lp l (adr w.heap.size) fun m=>L_ll l (adr i.heap.size) fun n o p q r s=>C0 51 #[.pointer m,(.agg #[.slice n o p,.slice q r s]),(.func (.func 71) #[] #[(.pointer (some (adr i.heap.size))),(.pointer (some (adr w.heap.size))),(.pointer (some (adr j.heap.size)))])] l (fun t=>True/\Lb t (adr j.heap.size) fun u=>R (.returned (.bool u)) t)))))):CP 26 #[.pointer a,(.agg #[.slice b c d,.slice e f g])] w R:=
 vcq Tryz.func26 [] [] [.l (.optr a),.agg [.slice b c d,.slice e f g]] h
theorem s_S (a:Int)(b:BA)(c:BA)(d:BA)(e:OA)(f g:Nat)(i:OA)(j k:Nat)(l:OA)(m n:Nat)(o:BA)(p:Addr)(q:Addr)(r:Addr)(w:World)(R:EW)(h:
 True/\(let s:=w.alloc (.cells #[.int .i64 a,.string b,.string c,.string d,.slice e f g,.slice i j k,.slice l m n] 67);
 ∀ t:BA->World->Prop,(∀ u:BA,∀ v:World,
 (Lp v q fun x=>CP 73 #[.pointer x,.string o] v (fun y z=>∃ A,∃ B,∃ C,∃ D E F,∃ G H I,∃ J K L,∃ M N O,∃ P Q S,∃ U,y=.returned (.tuple #[(.agg #[.string A,.string B,.string C,.slice D E F,.slice G H I,.slice J K L,.slice M N O,.slice P Q S]),.bool U])/\(KeepT 67 v z/\True)/\True/\True/\(let W:=z.alloc (.cells #[.string A,.string B,.string C,.slice D E F,.slice G H I,.slice J K L,.slice M N O,.slice P Q S] 85);
 Lp W q fun X=>CP 73 #[.pointer X,.string u] W (fun Y Z=>∃ aa,∃ ab,∃ ac,∃ ad ae af,∃ ag ah ai,∃ aj ak al,∃ am an ao,∃ ap aq ar,∃ au,Y=.returned (.tuple #[(.agg #[.string aa,.string ab,.string ac,.slice ad ae af,.slice ag ah ai,.slice aj ak al,.slice am an ao,.slice ap aq ar]),.bool au])/\(KeepT 67 W Z/\KeepT 85 W Z/\True)/\True/\True/\(let ax:=Z.alloc (.cells #[.string aa,.string ab,.string ac,.slice ad ae af,.slice ag ah ai,.slice aj ak al,.slice am an ao,.slice ap aq ar] 85);
 ∀ ay:Bool->World->Prop,(∀ az:Bool,∀ aA:World,
 ((Br az (∀ aB,aB=aA.drew->Lb aB r fun aC=>(Br aC (Off aB r 1 [67,85,85]/\True/\(let aD:=(aB.setCell r (.bool true));
 True/\R (.returned (.tuple #[])) aD)) (Lp aB q fun aE=>Lp aB q fun aF=>Cl 69 #[.pointer aE,.string o] aB (fun aG aH aI aJ=>(KeepT 67 aB aJ/\KeepT 85 aB aJ/\True)/\((aJ.cell? q=aB.cell? q)/\True)/\Cl 69 #[.pointer aF,.string u] aJ (fun aK aL aM aN=>(KeepT 67 aJ aN/\KeepT 85 aJ aN/\True)/\True/\Cb 74 #[.slice aG aH aI,.slice aK aL aM] aN (fun aO aP=>(KeepT 67 aN aP/\KeepT 85 aN aP/\True)/\True/\Off aP r 1 [67,85,85]/\True/\(let aQ:=(aP.setCell r (.bool (!aO)));
 True/\R (.returned (.tuple #[])) aQ))))))) (R (.returned (.tuple #[])) aA)))->
 ay az aA)->
 (Br (a !=0) (Cb 54 #[.string A] ax (fun aS aU=>(KeepT 67 ax aU/\KeepT 85 ax aU/\True)/\(Br aS (Cb 54 #[.string aa] aU (fun aV aW=>(KeepT 67 aU aW/\KeepT 85 aU aW/\True)/\ay aV aW)) (ay false aU)))) (ay false ax)))))))->
 t u v)->
 (Br (a==1) (L_ll s p fun aX aY aZ ba bb bc=>CP 72 #[(.agg #[.slice aX aY aZ,.slice ba bb bc]),.string c] s (fun bd be=>∃ bf,∃ bg,∃ bh bi bj,∃ bk bl bm,∃ bn,bd=.returned (.tuple #[(.agg #[.string bf,.string bg,.slice bh bi bj,.slice bk bl bm]),.bool bn])/\(KeepT 67 s be/\True)/\True/\True/\(let bp:=be.alloc (.cells #[.string bf,.string bg,.slice bh bi bj,.slice bk bl bm] 63);
 t bg bp))) (t d s)))):CP 71 #[(.agg #[.int .i64 a,.string b,.string c,.string d,.slice e f g,.slice i j k,.slice l m n]),.string o,(.pointer (some p)),(.pointer (some q)),(.pointer (some r))] w R:=
 vcq Tryz.func71 [5,8,10,12] [(4,⟨[(7,.str)],[]⟩),(16,⟨[(52,.bool)],[]⟩)] [.agg [.int .i64 a,.str b,.str c,.str d,.slice e f g,.slice i j k,.slice l m n],.l (.str o),.l (.ptr p),.l (.ptr q),.l (.ptr r)] h
theorem t_s (a:OA)(b c:Nat)(d:OA)(e f:Nat)(w:World)(R:EW)(h:
 ∃ (g:Int->World->Prop) (i:Int->World->Nat),g 0 w/\
 (∀ j:Int,∀ k:World,g j k->
 (Br (decide (j<(b:Int))) (Ix a j b fun l=>Ls k (l.add (j.toNat*1)) fun m=>Cb 68 #[.string m,.slice d e f] k (fun n o=>True/\(Br n (R (.returned (.bool true)) o) ((g (wr (j+1)) o/\i (wr (j+1)) o<i j k))))) (R (.returned (.bool false)) k)))):CP 74 #[.slice a b c,.slice d e f] w R:=
 vcq Tryz.func74 [] [(6,⟨[(9,.int .i64)],[]⟩)] [.l (.slice a b c),.l (.slice d e f)] h
theorem s_6 (a:OA)(w:World)(R:EW)(h:
 Pt a fun b=>Ll w b fun c d e=>∃ (f:Int->World->Prop) (g:Int->World->Nat),f 0 w/\
 (∀ i:Int,∀ j:World,f i j->
 (Br (decide (i<(d:Int))) (Ix c i d fun k=>Ls j (k.add (i.toNat*8)) fun l=>Ls j ((k.add (i.toNat*8)).add 1) fun m=>Ls j ((k.add (i.toNat*8)).add 2) fun n=>Ll j ((k.add (i.toNat*8)).add 3) fun o p q=>Ll j ((k.add (i.toNat*8)).add 4) fun r s t=>Ll j ((k.add (i.toNat*8)).add 5) fun u v x=>Ll j ((k.add (i.toNat*8)).add 6) fun y z A=>Ll j ((k.add (i.toNat*8)).add 7) fun B C D=>True/\True/\(let F:=j.alloc (.cells #[.string l,.string m,.string n,.slice o p q,.slice r s t,.slice u v x,.slice y z A,.slice B C D] 85);
 ∀ G:Bool->World->Prop,(∀ H:Bool,∀ I:World,
 ((Br H (R (.returned (.bool false)) I) ((f (wr (i+1)) I/\g (wr (i+1)) I<g i j))))->
 G H I)->
 (Br (l.toList==(⟨#[73,78,84,69,82,70,65,67,69]⟩:BA).toList) (Cl 69 #[.pointer a,.string n] F (fun J K L M=>(KeepT 85 F M/\True)/\G ((K:Int)==0) M)) (G false F)))) (R (.returned (.bool true)) j)))):CP 24 #[.pointer a] w R:=
 vcq Tryz.func24 [4] [(6,⟨[(10,.int .i64)],[]⟩),(17,⟨[(24,.bool)],[]⟩)] [.l (.optr a)] h
variable [DB]
theorem t_p {a:OA}{l c:Nat}{a':OA}{l' c':Nat}{xs ys:List BA}{w:World}(hl:RStrs w a l c xs)(hl':RStrs w a' l' c' ys):
  CP 74 #[.slice a l c,.slice a' l' c'] w (RetB w fun b=>b=true↔∃ s∈xs,s∈ys):=by
 obtain ⟨e1,e3⟩:=hl.len;refine t_s a l c a' l' c' w _ ⟨fun i w1=>0<=i/\i<=l/\EF w w1/\∀ s∈xs.take i.toNat,s∉ys,fun i _=>((l:Int)-i).toNat,⟨by omega,by omega,Ext.refl w,by simp⟩,?_⟩;rintro i w1 ⟨h0,hi,hx,hn⟩;refine ⟨fun hlt=>?_,fun hge=>?_⟩
 ·have hlt:=odt hlt;obtain ⟨p,x,hp,hxs,cs,hc,rfl⟩:=hl.get h0 hlt;refine ⟨p,hp,⟨h0,hlt⟩,x,hx.cell hc.1.choose_spec.2 id,?_⟩;refine (c_in x (hl'.keep hx.keep)).mono ?_;rintro _ w10 ⟨b,rfl,x10,hb⟩;refine ⟨b,rfl,trivial,fun h=>⟨true,rfl,hx.then x10,fun _=>⟨x,mg_ hxs,hb.1 h⟩,fun _=>rfl⟩,fun h=>?_⟩;have hno:x∉ys:=fun k=>by rw [hb.2 k] at h;cases h
  rw [a_a h0 (by omega)];exact next h0 hlt ⟨hx.then x10,a_g h0 hn hxs hno⟩
 ·have hall:=a_o e1 hge hn;exact ⟨false,rfl,hx,nofun,fun ⟨s,hs,hy⟩=>absurd hy (hall s hs)⟩
theorem t_l {w:World}{a:OA}{l c:Nat}{frags:List Frag}(h:a_X w a l c frags){f:Frag}(hf:f∈frags):f.on.size<=4194304:=by
 obtain ⟨j,hj⟩:=List.mem_iff_getElem?.1 hf;obtain ⟨p,-, cs,hc,_,_,_,_,_,_,rfl,-⟩:=h.2.2.2 j f hj;exact hc.2.2.2.1
def onSp (frags:List Frag)(k:Int)(n on:BA):BA:=if k=1 then (match a_h Frag.name frags n with
 | some f=>f.on
 | none=>E0) else on
def meetD (types:List Def)(u v:BA):Prop:=∃ s∈d_r types u,s∈d_r types v
def badNs (types:List Def)(frags:List Frag)(x:Sel × BA):Prop:=match x.1 with
 | .mk k _ n on _ _ _=>k≠0/\compK (findD types x.2).1.kind/\compK (findD types (onSp frags k n on)).1.kind/\¬ meetD types x.2 (onSp frags k n on)
section
variable {k:Nat} {A4:OA} {L4 C4:Nat} {A:OA} {L C:Nat} {A3:OA} {L3 C3:Nat} {types:List Def} {frags:List Frag} {a:OA} {l c:Nat} {a':OA} {l' c':Nat}
def PNs (k:Nat)(A4:OA)(L4 C4:Nat)(A:OA)(L C:Nat)(A3:OA)(L3 C3:Nat)(types:List Def)(frags:List Frag)(a:OA)(l c:Nat)(a':OA)(l' c':Nat)(wb qb ob:Nat)(s:List (Sel × BA))(w:World):Prop:=
 Blk w wb 33 [.pointer (some (adr k))]/\Blk w k 79 [.slice A4 L4 C4,.slice A L C,.slice A3 L3 C3]/\RDefs w A4 L4 C4 types/\Blk w qb 30 [.slice a l c,.slice a' l' c']/\a_X w a' l' c' frags/\∃ b:Bool,Blk w ob 4 [.bool b]/\(b=true↔∃ x∈s,badNs types frags x)
theorem t_r {wb qb ob:Nat}(hDB:DB.B<=ob)(h1:wb≠ob)(h2:k≠ob)(h3:qb≠ob):Clo 71 [.pointer (some (adr qb)),.pointer (some (adr wb)),.pointer (some (adr ob))] (fun b=>b=ob) (PNs k A4 L4 C4 A L C A3 L3 C3 types frags a l c a' l' c' wb qb ob):=by
 refine ⟨⟨_,Tryz.func71,by kernel_rfl⟩,fun l w w' ⟨p1,p2,p3,pq,pf,b,p4,p5⟩ hx=>⟨p1.ext hx id,p2.ext hx id,p3.keep hx.keep,pq.ext hx id,pf.keep hx.keep,b,p4.ext hx id,p5⟩,?_⟩;rintro s w ⟨k',al,n,on,args,dirs,kids⟩ u cs ⟨p1,p2,p3,pq,pf,b0,p4,p5⟩ hv hsm hok hu -;obtain ⟨a1,l1,c1,a2,l2,c2,a3,l3,c3,rfl,hv1,hv2,hv3⟩:=c_w.1 hv;have hon:on.size<=4194304:=hsm (.string on) (by simp);have hT:=p3.len;have x12:EF w (w.alloc (.cells #[.int .i64 k',.string al,.string n,.string on,.slice a1 l1 c1,.slice a2 l2 c2,.slice a3 l3 c3] 67)):=(Ext.refl w).alloc _;refine s_S k' al n on a1 l1 c1 a2 l2 c2 a3 l3 c3 u (adr qb) (adr wb) (adr ob) w _ ⟨trivial,fun K13 hK13=>?_⟩;have one:(∃ x∈s++[(Sel.mk k' al n on args dirs kids,u)],badNs types frags x)↔(∃ x∈s,badNs types frags x)∨badNs types frags (.mk k' al n on args dirs kids,u):=by
  simp only [ma_,List.mem_singleton,or_and_right,exists_or,exists_eq_left]
 have fin:∀ (w':World) (b v:Bool),EF w w'->Blk w' ob 4 [.bool b]->(v=true↔(∃ x∈s,badNs types frags x)∨badNs types frags (.mk k' al n on args dirs kids,u))->
   (.returned (.tuple #[]):Ending)=.returned (.tuple #[])/\SSt (fun b=>b=ob) w (w'.setCell (adr ob) (.bool v))/\PNs k A4 L4 C4 A L C A3 L3 C3 types frags a l c a' l' c' wb qb ob (s++[(.mk k' al n on args dirs kids,u)]) (w'.setCell (adr ob) (.bool v)):=fun w' b v x hb hi=>by
  have t:SSt (fun b=>b=ob) w (w'.setCell (adr ob) (.bool v)):=(SSt.of0 x).trans (SSt.bool hb hDB (Ext.setCell (X:=fun b=>b=ob) (Ext.refl _) (a:=⟨ob,0,none⟩) (.inl rfl) _));exact ⟨rfl,t,p1.ext t.ext h1,p2.ext t.ext h2,p3.keep t.keep,pq.ext t.ext h3,pf.keep t.keep,v,hb.set 0 _,hi.trans one.symm⟩
 have stay:∀ w':World,EF w w'->¬ badNs types frags (.mk k' al n on args dirs kids,u)->(.returned (.tuple #[]):Ending)=.returned (.tuple #[])/\SSt (fun b=>b=ob) w w'/\PNs k A4 L4 C4 A L C A3 L3 C3 types frags a l c a' l' c' wb qb ob (s++[(.mk k' al n on args dirs kids,u)]) w':=fun w' x hno=>
  ⟨rfl,SSt.of0 x,p1.ext x id,p2.ext x id,p3.keep x.keep,pq.ext x id,pf.keep x.keep,b0,p4.ext x id,p5.trans ⟨fun h=>one.2 (.inl h),fun h=>(one.1 h).resolve_right hno⟩⟩
 have off:∀ {w':World} {b:Bool},Blk w' ob 4 [.bool b]->∃ (cs:Array Value) (T:TypeId),objAt w' ob=some (.cells cs T (0,0))/\(none:Option Nat)=none/\0+1<=cs.size/\(Nat.beq 67 T||(Nat.beq 85 T||(Nat.beq 85 T||false)))=false:=fun {w' b} hb=>hb.off (j:=0) (n:=1) (q:=fun T=>(Nat.beq 67 T||(Nat.beq 85 T||(Nat.beq 85 T||false)))) (by simp) rfl;have key13:∀ (on':BA) (w15:World),EF w w15->on'.size<=4194304->on'=onSp frags k' n on->K13 on' w15:=by
  intro on' w15 x15 hon' e15;have hbn:badNs types frags (.mk k' al n on args dirs kids,u)↔k'≠0/\compK (findD types u).1.kind/\compK (findD types on').1.kind/\¬ meetD types u on':=by rw [e15];exact Iff.rfl
  clear e15;refine hK13 on' w15 ⟨some (adr k),((p1.ext x15 id).at (j:=0) rfl).cell,?_⟩;refine (a_t hu ((p2.ext x15 id).at (j:=0) rfl) (p3.keep x15.keep)).mono ?_;rintro _ w18 ⟨cs18,rfl,⟨b1,m1,d1,b2,m2,d2,b3,m3,d3,b4,m4,d4,b5,m5,d5,rfl,-⟩,-, x18⟩;have x29:=(x15.then x18).alloc (.cells #[.string (findD types u).1.kind,.string (findD types u).1.doc,.string (findD types u).1.name,.slice b1 m1 d1,.slice b2 m2 d2,.slice b3 m3 d3,.slice b4 m4 d4,.slice b5 m5 d5] 85);refine ⟨_,_,_,_,_,_,_,_,_,_,_,_,_,_,_,_,_,_,_,rfl,⟨x18.keepT _,trivial⟩,trivial,trivial,some (adr k),((p1.ext x29 id).at (j:=0) rfl).cell,?_⟩;refine (a_t hon' ((p2.ext x29 id).at (j:=0) rfl) (p3.keep x29.keep)).mono ?_;rintro _ w32 ⟨cs32,rfl,⟨g1,i1,j1,g2,i2,j2,g3,i3,j3,g4,i4,j4,g5,i5,j5,rfl,-⟩,-, x32⟩;have x43:=(x29.then x32).alloc (.cells #[.string (findD types on').1.kind,.string (findD types on').1.doc,.string (findD types on').1.name,.slice g1 i1 j1,.slice g2 i2 j2,.slice g3 i3 j3,.slice g4 i4 j4,.slice g5 i5 j5] 85);refine ⟨_,_,_,_,_,_,_,_,_,_,_,_,_,_,_,_,_,_,_,rfl,⟨x32.keepT _,x32.keepT _,trivial⟩,trivial,trivial,fun K44 hK44=>?_⟩;have key44:∀ (z:Bool) (w46:World),EF w w46->(z=true↔k'≠0/\compK (findD types u).1.kind/\compK (findD types on').1.kind)->K44 z w46:=by
   intro z w46 x46 hz;refine hK44 z w46 ⟨fun hzt=>fun w47 e47=>?_,fun hzf=>stay w46 x46 fun h=>by rw [hz.2 ⟨(hbn.1 h).1,(hbn.1 h).2.1,(hbn.1 h).2.2.1⟩] at hzf;cases hzf⟩;obtain ⟨hk0,hcu,hco⟩:=hz.1 hzt;have x47':EF w46 w47:=by rw [e47];exact (Ext.refl w46).drew
   clear e47;have x47:=x46.then x47';have p47:=p4.ext x47 id;refine ⟨b0,(p47.at (j:=0) rfl).cell,fun hb0=>⟨off p47,trivial,trivial,fin w47 b0 true x47 p47 ⟨fun _=>.inl (p5.1 hb0),fun _=>rfl⟩⟩,fun hb0=>?_⟩;have hnot:¬ ∃ x∈s,badNs types frags x:=fun h=>by rw [p5.2 h] at hb0;cases hb0
   have c47:=((p1.ext x47 id).at (j:=0) rfl).cell;refine ⟨some (adr k),c47,some (adr k),c47,?_⟩;refine (f_t hu ((p2.ext x47 id).at (j:=0) rfl) (p3.keep x47.keep)).mono ?_;rintro _ w53 ⟨A53,L53,C53,rfl,o53,hL53,x53⟩;have y53:=x47.then x53;refine ⟨A53,L53,C53,rfl,⟨x53.keepT _,x53.keepT _,trivial⟩,⟨x53.cell_eq id c47,trivial⟩,?_⟩;refine (f_t hon' ((p2.ext y53 id).at (j:=0) rfl) (p3.keep y53.keep)).mono ?_;rintro _ w56 ⟨A56,L56,C56,rfl,o56,hL56,x56⟩;have y56:=y53.then x56;refine ⟨A56,L56,C56,rfl,⟨x56.keepT _,x56.keepT _,trivial⟩,trivial,?_⟩;refine (t_p ((o53.keep x56).sl (by omega)) (o56.sl (by omega))).mono ?_;rintro _ w59 ⟨b60,rfl,x59,hb60⟩;have y59:=y56.then x59;have p59:=p4.ext y59 id;refine ⟨b60,rfl,⟨x59.keepT _,x59.keepT _,trivial⟩,trivial,off p59,trivial,trivial,fin w59 b0 (!b60) y59 p59 ⟨fun h=>.inr (hbn.2 ⟨hk0,hcu,hco,fun hm=>?_⟩),fun h=>?_⟩⟩
   ·rw [hb60.2 hm] at h;cases h
   ·have hm:=(hbn.1 (h.resolve_left hnot)).2.2.2;cases b60 with
    | false=>rfl
    | true=>exact absurd (hb60.1 rfl) hm
  refine ⟨fun hk=>?_,fun hk=>key44 false _ x43 ⟨nofun,fun h=>absurd (by simpa using hk) h.1⟩⟩;have hk:k'≠0:=by simpa using hk
  refine (b_5 _ _).mono ?_;rintro _ w63 ⟨b64,rfl,x63,hb64⟩;have y63:=x43.then x63;refine ⟨b64,rfl,⟨x63.keepT _,x63.keepT _,trivial⟩,fun h=>?_,fun h=>key44 false _ y63 ⟨nofun,fun q=>by rw [hb64.2 q.2.1] at h;cases h⟩⟩;refine (b_5 _ _).mono ?_;rintro _ w66 ⟨b67,rfl,x66,hb67⟩;exact ⟨b67,rfl,⟨x66.keepT _,x66.keepT _,trivial⟩,key44 b67 _ (y63.then x66) ⟨fun q=>⟨hk,hb64.1 h,hb67.1 q⟩,fun q=>hb67.2 q.2.2⟩⟩
 refine ⟨fun h1=>?_,fun h1=>key13 on _ x12 hon ?_⟩
 ·have h1:k'=1:=by simpa using h1
  have q12:=pq.ext x12 id;refine ⟨a,l,c,(q12.at (j:=0) rfl).cell,a',l',c',(q12.at (j:=1) rfl).cell,?_⟩;refine (n_R n x12 pf).mono ?_;rintro _ w71 ⟨s1,s2,g1,i1,j1,g2,i2,j2,b,rfl,x71,hb,hbt,hbf⟩;refine ⟨s1,s2,g1,i1,j1,g2,i2,j2,b,rfl,⟨x71.keepT _,trivial⟩,trivial,trivial,?_⟩;have he:s2.size<=4194304/\s2=onSp frags k' n on:=by
   rw [onSp,if_pos h1];cases b with
   | true=>
    obtain ⟨f,hf,-, rfl,-⟩:=hbt rfl;rw [hf];exact ⟨t_l pf (a_U hf).1,rfl⟩
   | false=>
    obtain ⟨hf,rfl⟩:=hbf rfl;rw [hf];exact ⟨by show (0:Nat)<=_;omega,rfl⟩
  exact key13 s2 _ ((x12.then x71).alloc _) he.1 he.2
 ·have h1:¬ k'=1:=by simpa using h1
  rw [onSp,if_neg h1]
theorem s_V {roots:List RootD}{ops:List OpD}{w:World}(hDB:DB.B<=w.heap.size)(hB:Blk w k 79 [.slice A4 L4 C4,.slice A L C,.slice A3 L3 C3])(hT:RDefs w A4 L4 C4 types)(hR:b_w w A L C roots)(hl:ROps w a l c ops)(hl':a_X w a' l' c' frags)(ok1:∀ x∈ops,okOp x)(ok2:∀ x∈frags,b_j x):
  CP 26 #[.pointer (some (adr k)),.agg #[.slice a l c,.slice a' l' c']] w (RetB w fun b=>b=true↔∃ x∈atAll types roots ops frags,badNs types frags x):=by
 have x4:EF w (w.alloc (.cells #[.pointer (some (adr k))] 33)):=(Ext.refl w).alloc _;have B4:Blk (w.alloc (.cells #[.pointer (some (adr k))] 33)) w.heap.size 33 [.pointer (some (adr k))]:=Blk.made w 33 [.pointer (some (adr k))];refine s_X (some (adr k)) a l c a' l' c' w _ ⟨trivial,?_⟩;generalize w.alloc (.cells #[.pointer (some (adr k))] 33)=w4 at *;have x5:EF w4 (w4.alloc (.cells #[.slice a l c,.slice a' l' c'] 30)):=(Ext.refl w4).alloc _;have B5:Blk (w4.alloc (.cells #[.slice a l c,.slice a' l' c'] 30)) w4.heap.size 30 [.slice a l c,.slice a' l' c']:=Blk.made w4 30 [.slice a l c,.slice a' l' c'];refine ⟨trivial,?_⟩;show True/\_;generalize w4.alloc (.cells #[.slice a l c,.slice a' l' c'] 30)=w5 at *;have B6:Blk (w5.alloc (.cells #[.bool false] 4)) w5.heap.size 4 [.bool false]:=Blk.made w5 4 [.bool false];have x6:EF w5 (w5.alloc (.cells #[.bool false] 4)):=(Ext.refl w5).alloc _;refine ⟨trivial,?_⟩;show (∃ _,_)/\_;generalize w5.alloc (.cells #[.bool false] 4)=w6 at *;refine ⟨B6.off (j:=0) (n:=1) (q:=fun T=>false) (by simp) rfl,trivial,?_⟩;have B7:Blk (w6.setCell (adr w5.heap.size) (.bool false)) w5.heap.size 4 [.bool false]:=B6.set 0 (.bool false);have x7:EF w5 (w6.setCell (adr w5.heap.size) (.bool false)):=Ext.setCell x6 (a:=⟨w5.heap.size,0,none⟩) (.inr (Nat.le_refl _)) _;generalize w6.setCell (adr w5.heap.size) (.bool false)=w7 at *;have y7:=(x4.then x5).then x7;have hz4:=B4.lt;have hz5:=B5.lt;have hk:=hB.lt;have hx4:=x4.size;have hx5:=x5.size;have B47:Blk w7 w.heap.size 33 [.pointer (some (adr k))]:=(B4.ext x5 id).ext x7 id;have B57:Blk w7 w4.heap.size 30 [.slice a l c,.slice a' l' c']:=B5.ext x7 id;refine ⟨some (adr k),(B47.at (j:=0) rfl).cell,a,l,c,(B57.at (j:=0) rfl).cell,a',l',c',(B57.at (j:=1) rfl).cell,?_⟩;refine (j_4 (X:=fun b=>b=w5.heap.size) (P:=PNs k A4 L4 C4 A L C A3 L3 C3 types frags a l c a' l' c' w.heap.size w4.heap.size w5.heap.size) (by show ¬ k=w5.heap.size;omega) (t_r (by omega) (by omega) (by omega) (by omega)) (hB.ext y7 id) (hT.keep y7.keep) (hR.keep y7.keep) (hl.keep y7.keep) (hl'.keep y7.keep) ok1 ok2 ⟨B47,hB.ext y7 id,hT.keep y7.keep,B57,hl'.keep y7.keep,false,B7,by simp⟩).mono ?_;rintro _ w10 ⟨rfl,s10,-, -, -, -, -, b,B10,hb⟩;refine ⟨rfl,trivial,b,(B10.at (j:=0) rfl).cell,b,rfl,y7.trans s10.ext fun k' hk' e=>?_,hb⟩;have e:k'=w5.heap.size:=e;omega
def s_T (types:List Def):Prop:=∀ t∈types,t.kind=b_i->d_r types t.name≠[]
theorem s_0 {w:World}(hB:Blk w k 79 [.slice A4 L4 C4,.slice A L C,.slice A3 L3 C3])(hT:RDefs w A4 L4 C4 types):
  CP 24 #[.pointer (some (adr k))] w (RetB w fun b=>b=true↔s_T types):=by
 obtain ⟨e1,g1⟩:=hT.len;refine s_6 (some (adr k)) w _ ⟨adr k,rfl,A4,L4,C4,(hB.at (j:=0) rfl).cell,?_⟩;refine ⟨fun i w1=>0<=i/\i<=L4/\EF w w1/\∀ t∈types.take i.toNat,t.kind=b_i->d_r types t.name≠[],fun i _=>((L4:Int)-i).toNat,⟨by omega,by omega,Ext.refl w,by simp⟩,?_⟩;rintro i w1 ⟨h0,hi,hx,hn⟩;refine ⟨fun hlt=>?_,fun hge=>?_⟩
 ·have hlt:=odt hlt;obtain ⟨pe,x,hpe,hxs,cs,hc,n1,o1,j1,n2,o2,j2,n3,o3,j3,n4,o4,j4,n5,o5,j5,rfl,hu1,hu2,hu3,hu4,hu5⟩:=hT.get h0 hlt;obtain ⟨⟨_,_,hc0⟩,hcs0,⟨_,_,hc1⟩,hcs1,⟨_,_,hc2⟩,hcs2,⟨_,_,hc3⟩,hcs3,⟨_,_,hc4⟩,hcs4,⟨_,_,hc5⟩,hcs5,⟨_,_,hc6⟩,hcs6,⟨_,_,hc7⟩,hcs7,-⟩:=hc;have hx36:EF w1 (w1.alloc (.cells #[.string x.kind,.string x.doc,.string x.name,.slice n1 o1 j1,.slice n2 o2 j2,.slice n3 o3 j3,.slice n4 o4 j4,.slice n5 o5 j5] 85)):=(Ext.refl w1).alloc _;refine ⟨pe,hpe,⟨h0,hlt⟩,_,hx.cell hc0 id,_,hx.cell hc1 id,_,hx.cell hc2 id,_,_,_,hx.cell hc3 id,_,_,_,hx.cell hc4 id,_,_,_,hx.cell hc5 id,_,_,_,hx.cell hc6 id,_,_,_,hx.cell hc7 id,trivial,trivial,fun K19 hK19=>?_⟩;have key:∀ (z:Bool) (w':World),EF w w'->(z=true↔x.kind=b_i/\d_r types x.name=[])->K19 z w':=by
   intro z w' x' hz;refine hK19 z w' ⟨fun h=>⟨false,rfl,x',nofun,fun hall=>absurd (hz.1 h).2 (hall x (mg_ hxs) (hz.1 h).1)⟩,fun h=>?_⟩;have hno:x.kind=b_i->d_r types x.name≠[]:=fun hk he=>by rw [hz.2 ⟨hk,he⟩] at h;cases h
   rw [a_a h0 (by omega)];exact next h0 hlt ⟨x',a_g h0 hn hxs hno⟩
  have y36:=hx.then hx36;refine ⟨fun hk=>?_,fun hk=>key _ _ y36 ⟨nofun,fun h=>absurd h.1 (a_f.1 hk)⟩⟩;have hk:=a_b.1 hk;refine (f_t hcs2 ((hB.ext y36 id).at (j:=0) rfl) (hT.keep y36.keep)).mono ?_;rintro _ w23 ⟨A23,L23,C23,rfl,o23,hL,x23⟩;have hlen:=o23.len;refine ⟨A23,L23,C23,rfl,⟨x23.keepT _,trivial⟩,key _ _ (y36.then x23) ⟨fun h=>⟨hk,List.eq_nil_of_length_eq_zero ?_⟩,fun h=>?_⟩⟩
  ·have:(L23:Int)=0:=by simpa using h
   omega
  ·rw [h.2] at hlen;have:L23=0:=hlen;simp [this]
 ·have hall:=a_o e1 hge hn;exact ⟨true,rfl,hx,fun _=>hall,fun _=>rfl⟩
end
def parD (c:WCtx)(po:List Named)(d:Def):List Def:=if d.kind=a_V then [d] else possF c.types po d.name
def sprB (c:WCtx)(po:List Named)(pd:Option Def)(nm:BA):Prop:=∃ d t,pd=some d/\compK d.kind/\lastN Def.name c.types nm=some t/\compK t.kind/\¬ ∃ x∈possF c.types po t.name,∃ y∈parD c po d,y.name=x.name
def s_P (c:WCtx)(po:List Named):Ev->Prop
 | .inl s pd=>sprB c po pd (onS s)
 | .spread n _ pd=>∃ f,a_h Frag.name c.frags n=some f/\sprB c po pd f.on
 | _=>False
theorem t_f {c:WCtx}{d:Def}{db:Nat}{w:World}(hwk:Wk c c.w0 w)(hp:PDef c.M c.w0 d db):
  CP 123 #[.pointer (some (adr db))] w fun e w'=>∃ b:Bool,e=.returned (.bool b)/\w'=w/\(b=true↔compK d.kind):=by
 obtain ⟨_,_,_,_,_,_,A3,L3,C3,_,_,_,_,_,_,pos3,hM,hB,-⟩:=hp;have c0:=hwk.nd hM hB (j:=0) rfl rfl;refine s_H (some (adr db)) w _ fun K2 hK2=>?_;have key:∀ z:Bool,(z=true↔compK d.kind)->K2 z w:=fun z hz=>hK2 z w ⟨z,rfl,rfl,hz⟩;refine ⟨adr db,rfl,d.kind,c0,fun h1=>⟨adr db,rfl,d.kind,c0,fun h2=>⟨adr db,rfl,d.kind,c0,key _ ⟨fun h=>.inr (.inr (a_b.1 h)),fun h=>?_⟩⟩,fun h2=>key true ⟨fun _=>.inr (.inl (a_b.1 h2)),fun _=>rfl⟩⟩,fun h1=>key true ⟨fun _=>.inl (a_b.1 h1),fun _=>rfl⟩⟩;exact a_b.2 ((h.resolve_left (a_f.1 h1)).resolve_left (a_f.1 h2))
theorem s_Q {c:WCtx}{po:List Named}{d:Def}{db:Nat}{w:World}(hps:PossS c.M c.w0 c.sb c.types po)(hsb:c.M c.sb)(hwk:Wk c c.w0 w)(hp:PDef c.M c.w0 d db):
  CP 122 #[.pointer (some (adr c.sb)),.pointer (some (adr db))] w fun e w'=>∃ A L C,e=.returned (.slice A L C)/\PDefs c.M c.w0 A L C (possF c.types po d.name)/\EF w w':=by
 obtain ⟨cs,m3,pm,hB,h6,hS3,hm,hn⟩:=hps;obtain ⟨_,_,_,_,_,_,A3,L3,C3,_,_,_,_,_,_,pos3,hM,hBd,-⟩:=hp;refine s_O (some (adr c.sb)) (some (adr db)) w _ fun w3 e3=>?_;have x3:EF w w3:=by rw [e3];exact (Ext.refl w).drew
 clear e3;have hwk3:=hwk.trans (Wk.ofExt x3 fun _ _=>id);obtain ⟨A,L,C,hA,hD⟩:=hn d.name;have hr:=a_W (t:=216) (kt:=9) (e:=199) (u:=d.name) (i:=Tryz.t199) (by kernel_rfl) (by kernel_rfl) (by kernel_rfl) rfl (hwk3.smap hS3 hm) false;have hr':(Instr.lookup 216 (.map (some m3)) (.string d.name) false).run Tryz.prog w3=.ok (.slice A L C) w3:=by
  rw [hr];show Result.ok ((mget pm d.name).getD (.slice none 0 0)) w3=_;rw [hA]
 exact ⟨adr c.sb,rfl,some m3,hwk3.nd hsb hB (j:=6) h6 rfl,adr db,rfl,d.name,hwk3.nd hM hBd (j:=2) rfl rfl,A,L,C,hr',trivial,A,L,C,rfl,hD,x3⟩
def LstD (c:WCtx)(A:OA)(L:Nat)(ds:List Def)(w:World):Prop:=L=ds.length/\L<=4194304/\∀ w',EF w w'->∀ (i:Int),0<=i->i<(L:Int)->∃ (p:Addr) (x:Def) (b:Nat),A=some p/\ds[i.toNat]? =some x/\w'.cell? (p.add (i.toNat*1))=some (.pointer (some (adr b)))/\PDef c.M c.w0 x b
theorem LstD.of {c:WCtx}{A:OA}{L C:Nat}{ds:List Def}{w:World}(hwk:Wk c c.w0 w)(h:PDefs c.M c.w0 A L C ds):LstD c A L ds w:=by
 refine ⟨h.1,h.2.2.1,fun w' hx i h0 hi=>?_⟩;obtain ⟨p,x,v,hp,hxs,hc,b,rfl,hpx⟩:=h.wget (hwk.trans (Wk.ofExt hx fun _ _=>id)) (fun _=>rfl) h0 hi;exact ⟨p,x,b,hp,hxs,hc,hpx⟩
section
variable {c:WCtx} {ae cnt vb:Nat} {po:List Named} {bad:Ev->Prop} {l:List Ev} {w w1:World} {cx:Option OpD} {co:OA} {vm:Nat} {evs:List Value} {node:Value} {ev:Ev}
theorem t_j (hb:Base c)(hps:PossS c.M c.w0 c.sb c.types po)(hw:Wst c cx co vm evs w)(hx1:EF w w1){pd:Option Def}{q:OA}(hq:QDef c pd q){name:BA}{ge:FuncId}{cap:List Value}{fe:Func}(hf:Tryz.prog.funcs[ge]? =some fe)(hfb:(fe.name== "runtime.NumGoroutine" ||fe.body.isNone)=false){R:Ending->World->Prop}
  (hgood:∀ w',EF w1 w'->¬ sprB c po pd name->R (.returned (.tuple #[])) w') (hbad:∀ w',EF w1 w'->sprB c po pd name->CP ge cap.toArray w' fun e w''=>e=.returned (.tuple #[])/\R (.returned (.tuple #[])) w''):
  CP 121 #[.pointer (some (adr c.wb)),.pointer q,.string name,.func (.func ge) #[] cap.toArray] w1 R:=by
 cases pd with
 | none=>
  obtain rfl:q=none:=hq;exact s_B (some (adr c.wb)) none name _ w1 _ ⟨fun _=>hgood w1 (Ext.refl w1) fun ⟨d,t,h,_⟩=>(by cases h),fun h=>(by cases h)⟩
 | some d=>
  obtain ⟨db,rfl,hdp⟩:=hq;have hwk:∀ {w'},EF w1 w'->Wk c c.w0 w':=fun x=>hw.wk.trans (Wk.ofExt (hx1.then x) fun _ _=>id);have hc:∀ {w':World} {x:Def} {b:Nat},EF w1 w'->PDef c.M c.w0 x b->w'.cell? (adr b)=some (.string x.kind)/\w'.cell? ((adr b).add 2)=some (.string x.name):=fun {w' x b} hx hp=>by
   obtain ⟨_,_,_,_,_,_,A3,L3,C3,_,_,_,_,_,_,pos3,hM,hB,-⟩:=hp;exact ⟨(hwk hx).nd hM hB (j:=0) rfl rfl,(hwk hx).nd hM hB (j:=2) rfl rfl⟩
  refine s_B (some (adr c.wb)) (some (adr db)) name _ w1 _ ⟨fun h=>(by cases h),fun _=>fun K5 hK5=>?_⟩;have key5:∀ (A:OA) (L C:Nat) (w7:World),compK d.kind->EF w1 w7->LstD c A L (parD c po d) w7->K5 A L C w7:=by
   intro A L C w7 hck x7 hl;obtain ⟨z1,z2,z4⟩:=hb.look hw (hx1.then x7);obtain ⟨q12,r12,o12⟩:=z4 name;refine hK5 A L C w7 ⟨adr c.wb,rfl,some (adr c.sb),z1,adr c.sb,rfl,some c.m1,z2,q12,r12,fun h12=>?_,fun h12=>?_⟩
   ·exact hgood w7 x7 fun ⟨d',t,_,_,h,_⟩=>by rw [o12.isNone.1 h12] at h;cases h
   cases hld:lastN Def.name c.types name with
   | none=>
    rw [o12.isNone.2 hld] at h12;cases h12
   | some t=>
    rw [hld] at o12;obtain ⟨tb,rfl,htp⟩:=o12;refine (t_f (hwk x7) htp).mono ?_;rintro _ _ ⟨b15,rfl,rfl,hb15⟩;refine ⟨b15,rfl,trivial,fun h=>hgood _ x7 fun ⟨d',t',_,_,h',h'',_⟩=>?_,fun h=>?_⟩
    ·rw [hld] at h';cases h';rw [hb15.2 h''] at h;cases h
    have htk:compK t.kind:=hb15.1 (by simpa using h);refine ⟨adr c.wb,rfl,some (adr c.sb),z1,?_⟩;refine (s_Q hps hb.sb (hwk x7) htp).mono ?_;rintro _ w19 ⟨A20,L20,C20,rfl,hD,x19⟩;have y19:=x7.then x19;have e20:=hD.1;have g20:=hD.2.2.1;obtain ⟨eL,gL,hl⟩:=hl;refine ⟨A20,L20,C20,rfl,trivial,fun n w24=>0<=n/\n<=L20/\EF w19 w24/\∀ x∈(possF c.types po t.name).take n.toNat,∀ y∈parD c po d,y.name≠x.name,fun n _=>((L20:Int)-n).toNat,⟨by omega,by omega,Ext.refl _,by simp⟩,?_⟩;rintro n w24 ⟨h0,hi,hx,hn⟩;have y24:=y19.then hx;refine ⟨fun hlt=>?_,fun hge=>?_⟩
    ·have hlt:=odt hlt;obtain ⟨p25,x,v,hp25,hxs,hc25,xb,rfl,hxp⟩:=hD.wget (hwk y24) (fun _=>rfl) h0 hlt;refine ⟨p25,hp25,⟨h0,hlt⟩,_,hc25,fun m w30=>0<=m/\m<=L/\EF w19 w30/\∀ y∈(parD c po d).take m.toNat,y.name≠x.name,fun m _=>((L:Int)-m).toNat,⟨by omega,by omega,hx,by simp⟩,?_⟩;rintro m w30 ⟨j0,jm,hx30,hn30⟩;refine ⟨fun hlt2=>?_,fun hge2=>?_⟩
     ·have hlt2:=odt hlt2;obtain ⟨p31,y,yb,hp31,hys,hc31,hyp⟩:=hl w30 (x19.then hx30) m j0 hlt2;refine ⟨p31,hp31,⟨j0,hlt2⟩,_,hc31,fun w33 e33=>?_⟩;have x33:EF w30 w33:=by rw [e33];exact (Ext.refl w30).drew
      clear e33;have y33:=(y19.then hx30).then x33;refine ⟨adr yb,rfl,y.name,(hc y33 hyp).2,adr xb,rfl,x.name,(hc y33 hxp).2,fun he=>hgood w33 y33 fun ⟨d',t',hd',_,ht',_,hno⟩=>?_,fun hne=>?_⟩
      ·cases hd';rw [hld] at ht';cases ht';exact hno ⟨x,mg_ hxs,y,mg_ hys,a_b.1 he⟩
      ·rw [a_a j0 (by omega)];exact next j0 hlt2 ⟨hx30.then x33,a_g j0 hn30 hys (a_f.1 hne)⟩
     ·have hall:=a_o eL hge2 hn30;rw [a_a h0 (by omega)];exact next h0 hlt ⟨hx30,a_g h0 hn hxs hall⟩
    ·have hall:=a_o e20 hge hn;refine ⟨ge,cap,rfl,fe,hf,hfb,?_⟩;refine (hbad w24 y24 ⟨d,t,rfl,hck,hld,htk,fun ⟨x,hx',y,hy,he⟩=>hall x hx' y hy he⟩).mono ?_;rintro _ w42 ⟨rfl,hR⟩;exact ⟨rfl,trivial,hR⟩
  have c0:=(hc (Ext.refl w1) hdp).1;refine ⟨adr db,rfl,d.kind,c0,fun hko=>⟨trivial,?_⟩,fun hno=>fun K46 hK46=>?_⟩
  ·have hko:d.kind=a_V:=a_b.1 hko;have x45:EF w1 (w1.alloc (.cells #[.pointer (some (adr db))] 175)):=(Ext.refl w1).alloc _;have B45:=Blk.made w1 175 [.pointer (some (adr db))];refine key5 _ 1 1 _ (.inl hko) x45 ⟨?_,by omega,fun w' hx i h0 hi=>?_⟩
   ·rw [parD,if_pos hko];rfl
   ·obtain rfl:i=0:=by omega
    rw [parD,if_pos hko];exact ⟨_,d,db,rfl,rfl,((B45.ext hx id).at (j:=0) rfl).cell,hdp⟩
  ·have hno:d.kind≠a_V:=a_f.1 hno;have key46:∀ z:Bool,(z=true↔d.kind=b_i∨d.kind=d_n)->K46 z w1:=by
    intro z hz;obtain ⟨z1,-, -⟩:=hb.look hw hx1;refine hK46 z w1 ⟨fun h=>⟨adr c.wb,rfl,some (adr c.sb),z1,?_⟩,fun h=>hgood w1 (Ext.refl w1) fun ⟨d',t,hd',hk,_⟩=>?_⟩
    ·refine (s_Q hps hb.sb (hwk (Ext.refl w1)) hdp).mono ?_;rintro _ w52 ⟨A,L,C,rfl,hD,x52⟩;refine ⟨A,L,C,rfl,trivial,key5 A L C w52 ((hz.1 h).elim (fun k=>.inr (.inl k)) fun k=>.inr (.inr k)) x52 (LstD.of (C:=C) (hwk x52) ?_)⟩;rw [parD,if_neg hno];exact hD
    ·cases hd';have:z=true:=hz.2 (hk.resolve_left hno);rw [this] at h;cases h
   exact ⟨fun hi=>key46 true ⟨fun _=>.inl (a_b.1 hi),fun _=>rfl⟩,fun hi=>key46 _ ⟨fun h=>.inr (a_b.1 h),fun h=>a_b.2 (h.resolve_left (a_f.1 hi))⟩⟩
abbrev Tel3 (ae:Nat)(X Y:Addr)(fmt:BA)(A:OA)(L C:Nat)(q:OA)(v4:Value)(w:World)(K:World->Prop):Prop:=
 CP 116 #[.string fmt,.slice A L C] w (fun e w18=>∃ v19:Value,e=.returned v19/\True/\((w18.cell? X=w.cell? X)/\(w18.cell? Y=w.cell? Y)/\(w18.cell? (adr ae)=w.cell? (adr ae))/\True)/\
  CP 117 #[.pointer q] w18 (fun e w21=>∃ v22:Value,e=.returned v22/\True/\((w21.cell? (adr ae)=w18.cell? (adr ae))/\True)/\(v19.oneCell'=true/\v22.oneCell'=true/\True)/\(let w23:=w21.alloc (.cells #[v19,v22] 181);
   ((w23.cell? (adr ae)=w21.cell? (adr ae))/\True)/\∃ (g:FuncId) (cap:List Value),v4=.func (.func g) #[] cap.toArray/\∃ fn,Tryz.prog.funcs[g]? =some fn/\(fn.name== "runtime.NumGoroutine" ||fn.body.isNone)=false/\
   CP g ([Value.slice (some (adr w21.heap.size)) 2 2]++cap).toArray w23 (fun e w28=>e=.returned (.tuple #[])/\True/\True/\K w28))))
theorem tel3 {m:Nat}{b:Prop}{X Y:Addr}{xv yv v4:Value}{q:OA}{fmt:BA}{A:OA}{L C:Nat}{K:World->Prop}(hc:Cnt ae cnt m b w)(hX:w.cell? X=some xv)(hY:w.cell? Y=some yv)(hne:ae≠cnt)
  (h4:v4=.func (.func 108) #[] #[.pointer (some (adr cnt))]) (hK:∀ w',Ext (fun k=>k=cnt∨k=ae) w w'->Cnt ae cnt (m+1) True w'->K w'):Tel3 ae X Y fmt A L C q v4 w K:=by
 have a0:w.cell? (adr ae)=_:=(hc.1.at (j:=0) rfl).cell;refine c_x.mono ?_;rintro _ w18 ⟨v19,rfl,o19,x18⟩;refine ⟨v19,rfl,trivial,⟨x18.cell_eq id hX,x18.cell_eq id hY,x18.cell_eq id a0,trivial⟩,?_⟩;refine j_b.mono ?_;rintro _ w21 ⟨v22,rfl,o22,x21⟩;have x23:EF w21 (w21.alloc (.cells #[v19,v22] 181)):=(Ext.refl w21).alloc _;have y:=(x18.then x21).then x23;refine ⟨v22,rfl,trivial,⟨ceqn x18 x21 a0,trivial⟩,⟨o19,o22,trivial⟩,⟨ceqn (x18.then x21) x23 a0,trivial⟩,108,[.pointer (some (adr cnt))],h4,_,Tryz.func108,by kernel_rfl,?_⟩;refine (n_T (hc.ext y id id) hne).mono ?_;rintro _ w28 ⟨rfl,x28,c28⟩;exact ⟨rfl,trivial,trivial,hK w28 ((y.toM _).trans x28 fun _ _ e=>e) c28⟩
theorem t_h {m ib nb db:Nat}{b:Prop}{on s:BA}{pos:OA}(hne:ae≠cnt)(hc:Cnt ae cnt m b w)(hi:w.cell? (adr ib)=some (.pointer (some (adr nb))))(h3:w.cell? ((adr nb).add 3)=some (.pointer (some (adr db))))(hd:w.cell? ((adr db).add 2)=some (.string s))(h0:w.cell? (adr nb)=some (.string on))(h4:w.cell? ((adr nb).add 4)=some (.pointer pos)):
  CP 126 #[.pointer (some (adr ae)),.pointer (some (adr ib))] w fun e w'=>e=.returned (.tuple #[])/\Ext (fun k=>k=cnt∨k=ae) w w'/\Cnt ae cnt (m+1) True w':=by
 refine s_C (adr ae) (adr ib) w _ fun w3 e3=>?_;have x3:EF w w3:=by rw [e3];exact (Ext.refl w).drew
 clear e3;have g:∀ {a:Addr} {v:Value},w.cell? a=some v->w3.cell? a=some v:=fun h=>(x3.cell_eq id h).trans h;have c3:=hc.ext x3 id id;have a3:w3.cell? (adr ae)=_:=(c3.1.at (j:=0) rfl).cell;have x16:EF w3 (w3.alloc (.cells #[.iface 9 (.string s),.iface 9 (.string on)] 20)):=(Ext.refl w3).alloc _;refine ⟨_,a3,some (adr nb),g hi,adr nb,rfl,some (adr db),g h3,adr db,rfl,s,g hd,some (adr nb),g hi,adr nb,rfl,on,g h0,some (adr nb),g hi,adr nb,rfl,pos,g h4,trivial,⟨x16.cell_eq id (g h4),x16.cell_eq id (g hi),x16.cell_eq id a3,trivial⟩,?_⟩;exact tel3 (c3.ext x16 id id) ((x16.cell_eq id (g h4)).trans (g h4)) ((x16.cell_eq id (g hi)).trans (g hi)) hne rfl fun w' x' c'=>⟨rfl,((x3.then x16).toM _).trans x' fun _ _ e=>e,c'⟩
theorem t_i {m ib nb db fb:Nat}{b:Prop}{n on s:BA}{pos:OA}(hne:ae≠cnt)(hc:Cnt ae cnt m b w)(hi:w.cell? (adr ib)=some (.pointer (some (adr nb))))(h0:w.cell? (adr nb)=some (.string n))(h2:w.cell? ((adr nb).add 2)=some (.pointer (some (adr db))))(hd:w.cell? ((adr db).add 2)=some (.string s))(h3:w.cell? ((adr nb).add 3)=some (.pointer (some (adr fb))))(hf:w.cell? ((adr fb).add 3)=some (.string on))(h4:w.cell? ((adr nb).add 4)=some (.pointer pos)):
  CP 129 #[.pointer (some (adr ae)),.pointer (some (adr ib))] w fun e w'=>e=.returned (.tuple #[])/\Ext (fun k=>k=cnt∨k=ae) w w'/\Cnt ae cnt (m+1) True w':=by
 refine s_D (adr ae) (adr ib) w _ fun w3 e3=>?_;have x3:EF w w3:=by rw [e3];exact (Ext.refl w).drew
 clear e3;have g:∀ {a:Addr} {v:Value},w.cell? a=some v->w3.cell? a=some v:=fun h=>(x3.cell_eq id h).trans h;have c3:=hc.ext x3 id id;have a3:w3.cell? (adr ae)=_:=(c3.1.at (j:=0) rfl).cell;have x16:EF w3 (w3.alloc (.cells #[.iface 9 (.string n),.iface 9 (.string s),.iface 9 (.string on)] 20)):=(Ext.refl w3).alloc _;refine ⟨_,a3,some (adr nb),g hi,adr nb,rfl,n,g h0,some (adr nb),g hi,adr nb,rfl,some (adr db),g h2,adr db,rfl,s,g hd,some (adr nb),g hi,adr nb,rfl,some (adr fb),g h3,adr fb,rfl,on,g hf,some (adr nb),g hi,adr nb,rfl,pos,g h4,trivial,⟨x16.cell_eq id (g h4),x16.cell_eq id (g hi),x16.cell_eq id a3,trivial⟩,?_⟩;exact tel3 (c3.ext x16 id id) ((x16.cell_eq id (g h4)).trans (g h4)) ((x16.cell_eq id (g hi)).trans (g hi)) hne rfl fun w' x' c'=>⟨rfl,((x3.then x16).toM _).trans x' fun _ _ e=>e,c'⟩
def StN (bad:Ev->Prop)(ae cnt vb:Nat)(l:List Ev)(w:World):Prop:=StB bad ae cnt l w/\Blk w vb 219 [.func (.func 121) #[] #[]]
abbrev XN (ae cnt vb:Nat):Nat->Prop:=fun b=>b=cnt∨b=ae∨b=vb
theorem StN.fin {w':World}(h1:vb≠cnt)(h2:vb≠ae)(hv:Blk w vb 219 [.func (.func 121) #[] #[]])(x:Ext (fun b=>b=cnt∨b=ae) w w')(s:StB bad ae cnt (l++[ev]) w'):(.returned (.tuple #[]):Ending)=.returned (.tuple #[])/\Ext (XN ae cnt vb) w w'/\StN bad ae cnt vb (l++[ev]) w':=
 ⟨rfl,x.mono fun _ _ e=>e.elim .inl fun e=>.inr (.inl e),s,hv.ext x fun e=>e.elim h1 h2⟩
theorem t_n (hb:Base c)(hps:PossS c.M c.w0 c.sb c.types po)(hbad:∀ e,bad e↔s_P c po e)(hne:ae≠cnt)(h1:vb≠cnt)(h2:vb≠ae)(hc0:StN bad ae cnt vb l w)(hw:Wst c cx co vm evs w)(hk:slot ev=3)(hn:f_i c cx w node ev):
  CP 125 #[.pointer (some (adr c.wb)),node,.pointer (some (adr vb)),.pointer (some (adr ae))] w fun e w'=>e=.returned (.tuple #[])/\Ext (XN ae cnt vb) w w'/\StN bad ae cnt vb (l++[ev]) w':=by
 cases ev with
 | inl s pd=>
  obtain ⟨hc,hv⟩:=hc0;obtain ⟨nb,q,rfl,hp,hq,hQ⟩:=hn;obtain ⟨k,al,n,on,args,dirs,kids⟩:=s;have hB1:bad (.inl (.mk k al n on args dirs kids) pd)↔sprB c po pd on:=hbad _;simp only [PSel] at hp;rcases hp with ⟨-, b',_,_,_,_,_,_,_,_,_,pos,he,-⟩|⟨-, b',_,_,_,pos,he,-⟩|⟨-, b',A2,L2,C2,A3,L3,C3,pos,he,hM,hB,-⟩
  ·simp at he
  ·simp at he
  ·obtain rfl:nb=b':=by
    have:=he;simp only [Value.iface.injEq,Value.pointer.injEq,Option.some.injEq,true_and] at this;exact congrArg Addr.block this
   have x5:EF w (w.alloc (.cells #[.pointer (some (adr nb))] 221)):=(Ext.refl w).alloc _;have B5:=Blk.made w 221 [.pointer (some (adr nb))];refine s_E (some (adr c.wb)) (some (adr nb)) (adr vb) (adr ae) w _ ⟨trivial,fun w6 e6=>?_⟩;have x6':EF (w.alloc (.cells #[.pointer (some (adr nb))] 221)) w6:=by rw [e6];exact (Ext.refl _).drew
   clear e6;have x6:=x5.then x6';have B6:=B5.ext x6' id;have g:∀ {w':World},EF w6 w'->w'.cell? (adr w.heap.size)=some (.pointer (some (adr nb)))/\w'.cell? ((adr nb).add 3)=some (.pointer q)/\w'.cell? (adr nb)=some (.string on)/\w'.cell? ((adr nb).add 4)=some (.pointer pos):=fun {w'} x=>by
    have y:=x6.then x;have wk:=hw.wk.trans (Wk.ofExt y fun _ _=>id);exact ⟨((B6.ext x id).at (j:=0) rfl).cell,(y.cell_eq id hq).trans hq,wk.nd hM hB (j:=0) rfl rfl,wk.nd hM hB (j:=4) rfl rfl⟩
   obtain ⟨g1,g2,g3,g4⟩:=g (Ext.refl w6);refine ⟨_,((hv.ext x6 id).at (j:=0) rfl).cell,some (adr nb),g1,adr nb,rfl,q,g2,some (adr nb),g1,adr nb,rfl,on,g3,121,[],rfl,_,Tryz.func121,by kernel_rfl,?_⟩;refine t_j hb hps hw x6 hQ (ge:=126) (cap:=[.pointer (some (adr ae)),.pointer (some (adr w.heap.size))]) Tryz.func126 (by kernel_rfl) (fun w' x' hno=>?_) fun w' x' hsp=>?_
   ·have y:=x6.then x';exact ⟨rfl,trivial,trivial,StN.fin h1 h2 hv (y.toM _) (StB.good (Cnt.ext hc y id id) fun h=>hno (hB1.1 h))⟩
   ·have y:=x6.then x';obtain ⟨f1,f2,f3,f4⟩:=g x';obtain ⟨d,t,rfl,-⟩:=id hsp;obtain ⟨db,rfl,hdp⟩:=hQ;obtain ⟨_,_,_,_,_,_,_,_,_,_,_,_,_,_,_,pos3,hMd,hBd,-⟩:=hdp;refine (t_h hne (Cnt.ext hc y id id) f1 f2 ((hw.wk.trans (Wk.ofExt y fun _ _=>id)).nd hMd hBd (j:=2) rfl rfl) f3 f4).mono ?_;rintro _ w28 ⟨rfl,x28,c28⟩;exact ⟨rfl,rfl,trivial,trivial,StN.fin h1 h2 hv ((y.toM _).trans x28 fun _ _ e=>e) (StB.told c28 (hB1.2 hsp))⟩
 | _=>cases hk
theorem t_o (hb:Base c)(hps:PossS c.M c.w0 c.sb c.types po)(hbad:∀ e,bad e↔s_P c po e)(hne:ae≠cnt)(h1:vb≠cnt)(h2:vb≠ae)(hc0:StN bad ae cnt vb l w)(hw:Wst c cx co vm evs w)(hk:slot ev=4)(hn:f_i c cx w node ev):
  CP 128 #[.pointer (some (adr c.wb)),node,.pointer (some (adr vb)),.pointer (some (adr ae))] w fun e w'=>e=.returned (.tuple #[])/\Ext (XN ae cnt vb) w w'/\StN bad ae cnt vb (l++[ev]) w':=by
 cases ev with
 | spread n found pd=>
  obtain ⟨hc,hv⟩:=hc0;obtain ⟨nb,q,q2,d1,u2,u3,pos,rfl,hM,hB,hq,hF,-, hq2,hQ⟩:=hn;have hB1:bad (.spread n found pd)↔∃ f,a_h Frag.name c.frags n=some f/\sprB c po pd f.on:=hbad _;have x5:EF w (w.alloc (.cells #[.pointer (some (adr nb))] 228)):=(Ext.refl w).alloc _;have B5:=Blk.made w 228 [.pointer (some (adr nb))];refine s_F (some (adr c.wb)) (some (adr nb)) (adr vb) (adr ae) w _ ⟨trivial,?_⟩;refine ⟨some (adr nb),(B5.at (j:=0) rfl).cell,adr nb,rfl,q,(x5.cell_eq id hq).trans hq,fun h8=>?_,fun h8=>fun w9 e9=>?_⟩
  ·refine StN.fin h1 h2 hv (x5.toM _) (StB.good (Cnt.ext hc x5 id id) fun h=>?_);obtain ⟨f,hf,-⟩:=hB1.1 h;rw [hf] at hF;obtain ⟨fb,rfl,-⟩:=hF;cases h8
  have x6':EF (w.alloc (.cells #[.pointer (some (adr nb))] 228)) w9:=by rw [e9];exact (Ext.refl _).drew
  clear e9;have x6:=x5.then x6';have B6:=B5.ext x6' id;cases hff:a_h Frag.name c.frags n with
  | none=>
   rw [hff] at hF;obtain rfl:q=none:=hF;cases h8
  | some f=>
   rw [hff] at hF;obtain ⟨fb,rfl,hfp⟩:=hF;obtain ⟨_,_,_,_,_,_,posf,hMf,hBf,-⟩:=hfp;have hB2:bad (.spread n found pd)↔sprB c po pd f.on:=hB1.trans ⟨fun ⟨f',h,h'⟩=>by
    rw [hff] at h;cases h;exact h',fun h=>⟨f,hff,h⟩⟩
   have g:∀ {w':World},EF w9 w'->w'.cell? (adr w.heap.size)=some (.pointer (some (adr nb)))/\w'.cell? ((adr nb).add 2)=some (.pointer q2)/\w'.cell? ((adr nb).add 3)=some (.pointer (some (adr fb)))/\w'.cell? ((adr fb).add 3)=some (.string f.on)/\w'.cell? (adr nb)=some (.string n)/\w'.cell? ((adr nb).add 4)=some (.pointer pos):=fun {w'} x=>by
    have y:=x6.then x;have wk:=hw.wk.trans (Wk.ofExt y fun _ _=>id);exact ⟨((B6.ext x id).at (j:=0) rfl).cell,(y.cell_eq id hq2).trans hq2,(y.cell_eq id hq).trans hq,wk.nd hMf hBf (j:=3) rfl rfl,wk.nd hM hB (j:=0) rfl rfl,wk.nd hM hB (j:=4) rfl rfl⟩
   obtain ⟨g1,g2,g3,g4,-, -⟩:=g (Ext.refl w9);refine ⟨_,((hv.ext x6 id).at (j:=0) rfl).cell,some (adr nb),g1,adr nb,rfl,q2,g2,some (adr nb),g1,adr nb,rfl,some (adr fb),g3,adr fb,rfl,f.on,g4,121,[],rfl,_,Tryz.func121,by kernel_rfl,?_⟩;refine t_j hb hps hw x6 hQ (ge:=129) (cap:=[.pointer (some (adr ae)),.pointer (some (adr w.heap.size))]) Tryz.func129 (by kernel_rfl) (fun w' x' hno=>?_) fun w' x' hsp=>?_
   ·have y:=x6.then x';exact ⟨rfl,trivial,trivial,StN.fin h1 h2 hv (y.toM _) (StB.good (Cnt.ext hc y id id) fun h=>hno (hB2.1 h))⟩
   ·have y:=x6.then x';obtain ⟨f1,f2,f3,f4,f5,f6⟩:=g x';obtain ⟨d,t,rfl,-⟩:=id hsp;obtain ⟨db,rfl,hdp⟩:=hQ;obtain ⟨_,_,_,_,_,_,_,_,_,_,_,_,_,_,_,pos3,hMd,hBd,-⟩:=hdp;refine (t_i hne (Cnt.ext hc y id id) f1 f5 f2 ((hw.wk.trans (Wk.ofExt y fun _ _=>id)).nd hMd hBd (j:=2) rfl rfl) f3 f4 f6).mono ?_;rintro _ w28 ⟨rfl,x28,c28⟩;exact ⟨rfl,rfl,trivial,trivial,StN.fin h1 h2 hv ((y.toM _).trans x28 fun _ _ e=>e) (StB.told c28 (hB2.2 hsp))⟩
 | _=>cases hk
end
def KR (types:List Def)(u:BA)(pd:Option Def):Prop:=∀ d,compK d.kind->(pd=some d↔(findD types u).1=d)
theorem s_1:¬ compK noDef.kind:=by rintro (h|h|h)<;>exact absurd h (by decide)
theorem t_a {s:BA}:¬ compK (a_A s).kind:=by
 show ¬ compK d_m;rintro (h|h|h)<;>exact absurd h (by decide)
theorem t_m {types:List Def}{u:BA}{pd:Option Def}(h1:∀ d,pd=some d->¬ compK d.kind)(h2:¬ compK (findD types u).1.kind):KR types u pd:=fun d hd=>⟨fun h=>absurd hd (h1 d h),fun h=>absurd (h▸hd) h2⟩
section
variable {types:List Def} {dirs:List DirDef} {defs:List SchemaDef}
theorem t_e (hO:OkSchema types dirs defs)(u:BA):KR types u (lastN Def.name (a_P++types) u):=by
 rw [c_N hO];intro d hd;cases hf:(findD types u).2 with
 | true=>simp
 | false=>
  rw [e_z hf];exact ⟨fun h=>by simp at h,fun h=>absurd (h▸hd) s_1⟩
theorem uniqN (hO:OkSchema types dirs defs){a b:Def}(ha:a∈types)(hb:b∈types)(h:a.name=b.name):a=b:=by
 have:=k_h hO.names.1 hb;have hm:a∈types.filter fun x=>decide (x.name=b.name):=List.mem_filter.2 ⟨ha,by simpa using h⟩;rw [this] at hm;simpa using hm
theorem s_2 (hO:OkSchema types dirs defs){t:Def}(ht:t∈types):findD types t.name=(t,true):=by
 unfold findD;cases hf:types.find? (fun d=>d.name.toList==t.name.toList) with
 | none=>exact absurd (a_b.2 rfl) (List.find?_eq_none.1 hf t ht)
 | some d=>
  have hn:d.name=t.name:=a_b.1 (List.find?_some (p:=fun d:Def=>d.name.toList==t.name.toList) hf);rw [uniqN hO (List.mem_of_find?_eq_some hf) ht hn]
theorem s_7 {u:BA}(h:compK (findD types u).1.kind):(findD types u).1∈types/\(findD types u).1.name=u:=by
 unfold findD at h ⊢;cases hf:types.find? (fun d=>d.name.toList==u.toList) with
 | some d=>exact ⟨List.mem_of_find?_eq_some hf,a_b.1 (List.find?_some (p:=fun d:Def=>d.name.toList==u.toList) hf)⟩
 | none=>
  rw [hf] at h;dsimp only at h;split at h
  ·exact absurd h t_a
  ·exact absurd h s_1
theorem s_R {u s:BA}:s∈d_r types u↔∃ o∈types,o.name=s/\o.kind=a_V/\(o.name=u∨((findD types u).1.kind=b_i/\u∈o.ifaces)∨((findD types u).1.kind=d_n/\o.name∈(findD types u).1.types)):=by
 unfold d_r;rw [mm_];constructor
 ·rintro ⟨o,ho,he⟩;obtain ⟨h1,h2⟩:=List.mem_filter.1 ho;refine ⟨o,h1,he,?_⟩;simpa [possQ,n_u,or_assoc] using h2
 ·rintro ⟨o,h1,he,h2⟩;refine ⟨o,List.mem_filter.2 ⟨h1,?_⟩,he⟩;simpa [possQ,n_u,or_assoc] using h2
def subI (types:List Def)(u s:BA):Prop:=∃ t∈types,t.name=s/\t.kind=b_i/\(findD types u).1.kind=b_i/\u∈t.ifaces
theorem s_Y {u s:BA}:s∈b_O types u↔s∈d_r types u∨subI types u s:=by
 unfold b_O;rw [ma_,mm_];refine or_congr Iff.rfl ⟨?_,?_⟩
 ·rintro ⟨t,ht,he⟩;obtain ⟨h1,h2⟩:=List.mem_filter.1 ht;refine ⟨t,h1,he,?_⟩;simpa [enumQ,n_u,and_assoc] using h2
 ·rintro ⟨t,h1,he,h2⟩;refine ⟨t,List.mem_filter.2 ⟨h1,?_⟩,he⟩;simpa [enumQ,n_u,and_assoc] using h2
theorem t_c {u s:BA}(h:s∈b_O types u):∃ t∈types,t.name=s:=by
 rcases s_Y.1 h with h|⟨t,h1,h2,-⟩
 ·obtain ⟨o,h1,h2,-⟩:=s_R.1 h;exact ⟨o,h1,h2⟩
 ·exact ⟨t,h1,h2⟩
theorem s_9 (hO:OkSchema types dirs defs){t:Def}(ht:t∈types):lastN Def.name (a_P++types) t.name=some t:=by
 rw [c_N hO,s_2 hO ht,if_pos rfl]
theorem s_5 (hO:OkSchema types dirs defs){d:Def}(hd:d∈types)(hk:compK d.kind){s:BA}:(∃ x∈possF (a_P++types) (possN types types) d.name,x.name=s)↔s∈b_O types d.name:=by
 unfold possF pushD b_W possN;simp only [mm_,List.mem_filter,mf_,List.mem_filterMap];constructor
 ·rintro ⟨x,⟨⟨n,y⟩,⟨⟨z,⟨t,-, rfl⟩,r,hr,hy⟩,hn⟩,rfl⟩,rfl⟩;have hnd:n=d.name:=by simpa using hn
  obtain ⟨t',ht',rfl⟩:=t_c hr;rw [s_9 hO ht'] at hy;simp only [Option.map_some,Option.some.injEq,Prod.mk.injEq] at hy;obtain ⟨h1,rfl⟩:=hy;rw [<- hnd,<- h1];exact hr
 ·intro hs;obtain ⟨t,ht,rfl⟩:=t_c hs;refine ⟨t,⟨(d.name,t),⟨⟨⟨d.name,b_O types d.name⟩,⟨d,⟨hd,?_⟩,rfl⟩,t.name,hs,?_⟩,by simp⟩,rfl⟩,rfl⟩
  ·simpa [compQ,or_assoc] using hk
  ·rw [s_9 hO ht];rfl
theorem s_3:a_V≠b_i/\a_V≠d_n/\b_i≠d_n:=by decide
theorem t_d (hO:OkSchema types dirs defs)(hP:s_T types){c:WCtx}(ht:c.types=a_P++types){u nm:BA}(hu:compK (findD types u).1.kind)(hn:compK (findD types nm).1.kind):
  (∃ x∈possF c.types (possN types types) (findD types nm).1.name,∃ y∈parD c (possN types types) (findD types u).1,y.name=x.name)↔meetD types u nm:=by
 obtain ⟨hum,hue⟩:=s_7 hu;obtain ⟨hnm,hne⟩:=s_7 hn;have hX:∀ s,(∃ x∈possF c.types (possN types types) (findD types nm).1.name,x.name=s)↔s∈d_r types nm∨subI types nm s:=fun s=>by
  rw [ht,s_5 hO hnm hn,hne,s_Y]
 have hY1:∀ y∈parD c (possN types types) (findD types u).1,y.name∈d_r types u∨subI types u y.name:=fun y hy=>by
  unfold parD at hy;split at hy
  ·rename_i ho;obtain rfl:y=(findD types u).1:=by simpa using hy
   exact .inl (s_R.2 ⟨_,hum,rfl,ho,.inl hue⟩)
  ·rw [ht] at hy;have:=(s_5 hO hum hu).1 ⟨y,hy,rfl⟩;rw [hue] at this;exact s_Y.1 this
 have hY2:∀ s∈d_r types u,∃ y∈parD c (possN types types) (findD types u).1,y.name=s:=fun s hs=>by
  unfold parD;split
  ·rename_i ho;obtain ⟨o,h1,h2,h3,h4⟩:=s_R.1 hs;rw [ho] at h4;rcases h4 with h4|h4|h4
   ·exact ⟨(findD types u).1,by simp,hue.trans (h4.symm.trans h2)⟩
   ·exact absurd h4.1 s_3.1
   ·exact absurd h4.1 s_3.2.1
  ·rw [ht];refine (s_5 hO hum hu).2 ?_;rw [hue];exact s_Y.2 (.inl hs)
 have no:∀ {v z s:BA},s∈d_r types v->subI types z s->False:=fun {v z s} h ⟨t,t1,t2,t3,_⟩=>by
  obtain ⟨o,o1,o2,o3,-⟩:=s_R.1 h;rw [uniqN hO o1 t1 (o2.trans t2.symm)] at o3;exact s_3.1 (o3.symm.trans t3)
 constructor
 ·rintro ⟨x,hx,y,hy,he⟩;have h1:=(hX x.name).1 ⟨x,hx,rfl⟩;have h2:=hY1 y hy;rw [he] at h2;rcases h1 with h1|h1<;>rcases h2 with h2|h2
  ·exact ⟨x.name,h2,h1⟩
  ·exact (no h1 h2).elim
  ·exact (no h2 h1).elim
  ·obtain ⟨t,t1,t2,t3,t4,t5⟩:=h1;obtain ⟨t',r1,r2,r3,r4,r5⟩:=h2;rw [uniqN hO r1 t1 (r2.trans t2.symm)] at r5;obtain ⟨s,hs⟩:=List.exists_mem_of_ne_nil _ (hP t t1 t3);obtain ⟨o,o1,o2,o3,o4⟩:=s_R.1 hs;rw [s_2 hO t1] at o4;have ho:t.name∈o.ifaces:=by
    rcases o4 with o4|o4|o4
    ·rw [uniqN hO o1 t1 o4] at o3;exact absurd (o3.symm.trans t3) s_3.1
    ·exact o4.2
    ·exact absurd (t3.symm.trans o4.1) s_3.2.2
   have hkp:=hO.kept o o1 t.name ho;rw [s_2 hO t1] at hkp;exact ⟨o.name,s_R.2 ⟨o,o1,rfl,o3,.inr (.inl ⟨r4,hkp u r5⟩)⟩,s_R.2 ⟨o,o1,rfl,o3,.inr (.inl ⟨t4,hkp nm t5⟩)⟩⟩
 ·rintro ⟨s,h1,h2⟩;obtain ⟨x,hx,rfl⟩:=(hX s).2 (.inl h2);obtain ⟨y,hy,he⟩:=hY2 _ h1;exact ⟨x,hx,y,hy,he⟩
theorem t_b (hO:OkSchema types dirs defs)(hP:s_T types){c:WCtx}(ht:c.types=a_P++types){u:BA}{pd:Option Def}(hR:KR types u pd)(nm:BA):
  sprB c (possN types types) pd nm↔compK (findD types u).1.kind/\compK (findD types nm).1.kind/\¬ meetD types u nm:=by
 constructor
 ·rintro ⟨d,t,h1,h2,h3,h4,h5⟩;obtain rfl:=(hR d h2).1 h1;rw [ht] at h3;obtain rfl:=(t_e hO nm t h4).1 h3;exact ⟨h2,h4,fun k=>h5 ((t_d hO hP ht h2 h4).2 k)⟩
 ·rintro ⟨h2,h4,h5⟩;exact ⟨_,_,(hR _ h2).2 rfl,h2,by rw [ht];exact (t_e hO nm _ h4).2 rfl,h4,fun k=>h5 ((t_d hO hP ht h2 h4).1 k)⟩
theorem t_t {c:WCtx}{po:List Named}{cx:Option OpD}{l:List Argm}{e:Ev}(h:e∈b_B cx l)(hb:s_P c po e):False:=by
 have:=d_8 _ h;cases e<;>first|exact hb|simp [slot] at this
theorem t_g {c:WCtx}{po:List Named}{cx:Option OpD}{loc:BA}{l:List Dir}{e:Ev}(h:e∈evDs cx loc l)(hb:s_P c po e):False:=by
 have:=b_C _ h;cases e<;>first|exact hb|simp [slot] at this
theorem t_u {c:WCtx}{po:List Named}{cx:Option OpD}{l:List VarD}{e:Ev}(h:e∈f_j cx l)(hb:s_P c po e):False:=by
 have:=g_e _ h;cases e<;>first|exact hb|simp [slot] at this
theorem q_5 {α:Type}{P:α->Prop}{l m:List α}:(∃ x∈l++m,P x)↔(∃ x∈l,P x)∨∃ x∈m,P x:=by
 constructor
 ·rintro ⟨x,hx,h⟩;exact (ma_.1 hx).imp (fun k=>⟨x,k,h⟩) fun k=>⟨x,k,h⟩
 ·rintro (⟨x,hx,h⟩|⟨x,hx,h⟩)
  ·exact ⟨x,ma_.2 (.inl hx),h⟩
  ·exact ⟨x,ma_.2 (.inr hx),h⟩
theorem s_W {α:Type}{P:α->Prop}{l m:List α}(h:∀ x∈l,P x->False):(∃ x∈l++m,P x)↔∃ x∈m,P x:=by
 rw [q_5];exact ⟨fun k=>k.resolve_left fun ⟨x,hx,hp⟩=>h x hx hp,.inr⟩
theorem s_8 (hO:OkSchema types dirs defs)(hP:s_T types){c:WCtx}{cx:Option OpD}(ht:c.types=a_P++types):∀ (ks:List Sel) (u:BA) (pd:Option Def),a_z ks->Rel types u pd->KR types u pd->(∀ n∈condL ks,(findD types n).1.kind≠b_f)->((∃ e∈evL c.types c.frags cx pd ks,s_P c (possN types types) e)↔∃ x∈atL types u ks,badNs types c.frags x)
 | [],u,pd,_,_,_,_=>by simp [evL,atL]
 | .mk k al n on args dirs' kids::l,u,pd,ok,hR,hK,hC=>by
  simp only [a_z,okSel] at ok;have hCl:∀ n∈condL l,(findD types n).1.kind≠b_f:=fun m hm=>hC m (by simp only [condL,ma_];exact .inr hm);have ihl:=s_8 hO hP (cx:=cx) ht l u pd ok.2 hR hK hCl;have hCk:∀ n∈condL kids,(findD types n).1.kind≠b_f:=fun m hm=>hC m (by
   simp only [condL,condS,ma_];exact .inl (.inr hm))
  rw [evL,atL,q_5,q_5,ihl];refine or_congr_left ?_;rw [o_N];simp only [mc_,exists_eq_or_imp];by_cases hk0:k=0
  ·subst hk0;have hnext:Rel types (downS types u 0 n on) (nextD c.types pd n)/\KR types (downS types u 0 n on) (nextD c.types pd n):=by
    rw [downS,if_pos rfl];by_cases hn:n=bTn
    ·subst hn;have hnx:nextD c.types pd bTn=some (a_A bStr):=by
      rw [nextD,fldD,if_pos rfl];show lastN Def.name c.types bStr=_;rw [ht,c_N hO,e_A hO f_M,if_pos rfl]
     rw [hnx];have hsc:∀ d,some (a_A bStr)=some d->¬ compK d.kind:=fun d hd=>by cases hd;exact t_a
     cases hS:b_e types u bTn with
     | none=>
      rw [c_f hS];exact ⟨o_I (fun d hd=>by cases hd;rfl) (e_z (m_h hO)),t_m hsc (by
       show ¬ compK (findD types E0).1.kind;rw [e_z (m_h hO)];exact s_1)⟩
     | some f=>
      have hf:f=tnFld bTn:=by
       rw [b_e] at hS;split at hS
       ·cases hS;rfl
       ·split at hS
        ·rename_i h1 h2;exact absurd ⟨rfl,h2.elim .inl fun k=>.inr (.inl k)⟩ h1
        ·cases hS
      rw [b_P hS,hf];have:=j_O hO (u:=bStr) (by rw [e_A hO f_M];exact fun h=>absurd h (by decide));rw [c_N hO,e_A hO f_M,if_pos rfl] at this;exact ⟨this,t_m hsc (by
       show ¬ compK (findD types bStr).1.kind;rw [e_A hO f_M];exact t_a)⟩
    ·obtain ⟨hE,hKf⟩:=hR n hn;rw [nextD,hE];cases hS:b_e types u n with
     | none=>
      rw [c_f hS];exact ⟨o_I (fun d hd=>by cases hd) (e_z (m_h hO)),t_m (fun d hd=>by cases hd) (by
       show ¬ compK (findD types E0).1.kind;rw [e_z (m_h hO)];exact s_1)⟩
     | some f=>
      rw [b_P hS];show Rel types (a_n f.t) (lastN Def.name c.types (a_w f.t))/\KR types (a_n f.t) (lastN Def.name c.types (a_w f.t));rw [ht,<- baseName_eq'];exact ⟨j_O hO (hKf f hS).2,t_e hO _⟩
   have ihk:=s_8 hO hP (cx:=cx) ht kids _ _ ok.1.2.2.2.1 hnext.1 hnext.2 hCk;rw [evS,if_pos rfl,s_W fun x hx=>t_t hx,s_W fun x hx=>t_g hx,q_5,ihk];constructor
   ·rintro (h|⟨e,he,hb⟩)
    ·exact .inr h
    ·obtain rfl:e=_:=List.mem_singleton.1 he;exact hb.elim
   ·rintro (h|h)
    ·exact absurd rfl h.1
    ·exact .inl h
  ·by_cases hk1:k=1
   ·have hkk:=(ok.1.2.2.2.2.1 hk1).2;subst hkk;rw [evS,if_neg hk0,if_pos hk1,s_W fun x hx=>t_g hx];have hs:(∃ x∈atL types (downS types u k n on) [],badNs types c.frags x)↔False:=by simp [atL]
    rw [hs,or_false];simp only [List.mem_singleton,exists_eq_left];show (∃ f,a_h Frag.name c.frags n=some f/\sprB c (possN types types) pd f.on)↔k≠0/\compK (findD types u).1.kind/\compK (findD types (onSp c.frags k n on)).1.kind/\¬ meetD types u (onSp c.frags k n on);rw [onSp,if_pos hk1];cases hf:a_h Frag.name c.frags n with
    | none=>
     constructor
     ·rintro ⟨f,h,-⟩;cases h
     ·rintro ⟨-, -, h,-⟩;have h:compK (findD types E0).1.kind:=h;rw [e_z (m_h hO)] at h;exact absurd h s_1
    | some f=>
     constructor
     ·rintro ⟨f',h,h'⟩;cases h;exact ⟨hk0,(t_b hO hP ht hK f.on).1 h'⟩
     ·rintro ⟨-, h⟩;exact ⟨f,rfl,(t_b hO hP ht hK f.on).2 h⟩
   ·have hk2:k=2:=by omega
    have hnext:Rel types (downS types u k n on) (inlD c.types pd on)/\KR types (downS types u k n on) (inlD c.types pd on):=by
     rw [downS,if_neg hk0,inlD];by_cases ho:on=E0
     ·rw [if_pos ho,if_pos ho];exact ⟨hR,hK⟩
     ·rw [if_neg ho,if_neg ho,ht];refine ⟨j_O hO (hC on ?_),t_e hO _⟩;simp only [condL,condS,ma_];exact .inl (.inl (by rw [if_pos ⟨hk2,ho⟩];simp))
    have ihk:=s_8 hO hP (cx:=cx) ht kids _ _ ok.1.2.2.2.1 hnext.1 hnext.2 hCk;rw [evS,if_neg hk0,if_neg hk1,s_W fun x hx=>t_g hx,q_5,ihk,or_comm];refine or_congr_left ?_;simp only [List.mem_singleton,exists_eq_left];show sprB c (possN types types) pd on↔k≠0/\compK (findD types u).1.kind/\compK (findD types (onSp c.frags k n on)).1.kind/\¬ meetD types u (onSp c.frags k n on);rw [onSp,if_neg hk1,t_b hO hP ht hK];simp [hk0]
end
abbrev t_k (types:List Def)(roots:List RootD)(ops:List OpD)(frags:List Frag):Prop:=∃ x∈atAll types roots ops frags,badNs types frags x
theorem t_q (types:List Def)(dirs:List DirDef)(defs:List SchemaDef)(ops:List OpD)(frags:List Frag)(hO:OkSchema types dirs defs)(h12:ops.length<=12)(h12':frags.length<=12)(ok1:∀ x∈ops,okOp x)(ok2:∀ x∈frags,b_j x)(hs:docW ops frags<=2097152)(hS:SoundD types (a_F types defs) ops frags)(hP:s_T types):
  RuleOK 70 (wideD types dirs (a_F types defs)) ops frags fun n=>0<=n/\(n>0↔t_k types (a_F types defs) ops frags):=by
 refine ⟨⟨_,Tryz.func70,by kernel_rfl⟩,?_⟩;intro c cnt hops hfrags hwd hb hB hcnt hne hMc hMe;subst hops;subst hfrags;obtain ⟨rf,hrf⟩:=l_q hS.ac;have ht:c.types=a_P++types:=hwd.1;have hlc:=hcnt.lt;have hle:=hB.lt;have x3:EF c.w0 (c.w0.alloc (.cells #[.func (.func 108) #[] #[.pointer (some (adr cnt))]] 161)):=(Ext.refl c.w0).alloc _;have Bae:=Blk.made c.w0 161 [.func (.func 108) #[] #[.pointer (some (adr cnt))]];refine s_G (some (adr c.eb)) _ c.w0 _ ⟨⟨rfl,trivial⟩,?_⟩;show _/\_;generalize hw3:c.w0.alloc (.cells #[.func (.func 108) #[] #[.pointer (some (adr cnt))]] 161)=w3;replace x3:EF c.w0 w3:=by rw [<- hw3];exact x3
 replace Bae:Blk w3 c.w0.heap.size 161 [.func (.func 108) #[] #[.pointer (some (adr cnt))]]:=by rw [<- hw3];exact Bae
 clear hw3;have hla:=Bae.lt;obtain ⟨ae,hae'⟩:∃ ae,ae=c.w0.heap.size:=⟨_,rfl⟩;obtain ⟨vb,hvb'⟩:∃ vb,vb=w3.heap.size:=⟨_,rfl⟩;have x4:EF w3 (w3.alloc (.cells #[Value.nilFunc] 219)):=(Ext.refl w3).alloc _;have B4:=Blk.made w3 219 [Value.nilFunc];refine ⟨⟨rfl,trivial⟩,?_⟩;show (∃ _,_)/\_;refine ⟨B4.off (j:=0) (n:=1) (q:=fun T=>false) (by simp) rfl,trivial,?_⟩;have x5:EF w3 ((w3.alloc (.cells #[Value.nilFunc] 219)).setCell (adr w3.heap.size) (.func (.func 121) #[] #[])):=Ext.setCell x4 (a:=⟨w3.heap.size,0,none⟩) (.inr (Nat.le_refl _)) _;have B5:Blk ((w3.alloc (.cells #[Value.nilFunc] 219)).setCell (adr w3.heap.size) (.func (.func 121) #[] #[])) w3.heap.size 219 [.func (.func 121) #[] #[]]:=B4.set 0 _;show Calls _ _ _ _ _;rw [<- hvb'] at B5 x5 ⊢;rw [<- hae'] at Bae ⊢;generalize (w3.alloc (.cells #[Value.nilFunc] 219)).setCell (adr vb) (.func (.func 121) #[] #[])=w5 at *;have hlv:=B5.lt;refine (s_L (f:=.func (.func 125) #[] #[.pointer (some (adr vb)),.pointer (some (adr ae))]) rfl (hB.ext (x3.then x5) id) rfl).mono ?_;rintro _ w7 ⟨rfl,p,C,B7,ap7,hpb,x7⟩;refine ⟨rfl,trivial,?_⟩;refine (s_K (f:=.func (.func 128) #[] #[.pointer (some (adr vb)),.pointer (some (adr ae))]) rfl B7 rfl).mono ?_;rintro _ w9 ⟨rfl,p2,C2,B9,ap2,hpb2,x9'⟩;have x9:Ext (fun b=>b=c.eb) w5 w9:=x7.trans x9' fun _ _ e=>e;have hz3:=x3.size;have hz5:=x5.size;have hz7:=x7.size;have hz9:=x9'.size;have ap:At w9 _ p _:=x9'.at (by show ¬ p.block=c.eb;omega) ap7;have y5:=x3.then x5;have y9:Ext (fun b=>b=c.eb) c.w0 w9:=(y5.toM _).trans x9 fun _ _ e=>e;have hac:ae≠cnt:=by omega
 have hvc:vb≠cnt:=by omega
 have hva:vb≠ae:=by omega
 have Bae9:=(Bae.ext x5 id).ext x9 (by show ¬ ae=c.eb;omega);have Bv9:=B5.ext x9 (by show ¬ vb=c.eb;omega);have Bc9:=hcnt.ext y9 hne;have k9:Keeps c.M c.M c.w0 w9:=y9.keeps (fun b hb _=>hb) fun b hb' _ e=>by
  have:b=c.eb:=e;exact hMe (this▸hb')
 have hps:PossS c.M w9 c.sb c.types (possN types types):=hwd.2.2.2.2.2.keep k9 hb.sb;refine ⟨rfl,trivial,rfl,y9,XN ae cnt vb,StN (s_P c (possN types types)) ae cnt vb,obL [(3,p,C),(4,p2,C2)],rf,?_,fun b hb'=>?_,fun b hb' T cs fr ho=>?_,fun l w'' hl ht'=>?_⟩
 ·have hV:∀ b,XN ae cnt vb b->b=cnt∨(c.w0.heap.size<=b/\b<w9.heap.size):=fun b hb'=>by
   rcases hb' with rfl|rfl|rfl
   ·exact .inl rfl
   ·exact .inr (by omega)
   ·exact .inr (by omega)
  refine n_H hb hrf hMe y9 hV hlc hne hMc hle (fun l w w'' h hx=>⟨Cnt.ext h.1 hx (fun e=>e (.inr (.inl rfl))) fun e=>e (.inl rfl),h.2.ext hx fun e=>e (.inr (.inr rfl))⟩) ⟨Cnt.zero Bae9 Bc9 (by simp),Bv9⟩ B9 fun b5 wb fm fl j=>o_M (fun x hx=>?_) j;have hnM:∀ q:Addr,c.w0.heap.size<=q.block->¬ c.M q.block:=fun q hq h=>by
   have:q.block<c.w0.heap.size:=hb.m _ h;omega
  simp only [mc_,nn_,or_false] at hx;rcases hx with rfl|rfl
  ·refine ⟨_,_,[.pointer (some (adr vb)),.pointer (some (adr ae))],_,ap,hnM p (by omega),fun h=>?_,Tryz.func125,by kernel_rfl,fun l w1 cx co vm evs node ev hl hw hk hn=>t_n (b5.at3 wb fm fl) hps (fun e=>Iff.rfl) hac hvc hva hl hw hk hn⟩;have:p.block=cnt∨p.block=ae∨p.block=vb:=h;omega
  ·refine ⟨_,_,[.pointer (some (adr vb)),.pointer (some (adr ae))],_,ap2,hnM p2 (by omega),fun h=>?_,Tryz.func128,by kernel_rfl,fun l w1 cx co vm evs node ev hl hw hk hn=>t_o (b5.at3 wb fm fl) hps (fun e=>Iff.rfl) hac hvc hva hl hw hk hn⟩;have:p2.block=cnt∨p2.block=ae∨p2.block=vb:=h;omega
 ·rcases hb' with rfl|rfl|rfl
  ·exact .inr (Nat.le_refl _)
  ·exact .inr (by omega)
  ·exact .inr (by omega)
 ·rcases hb' with rfl|rfl|rfl
  ·rw [Bc9.type ho];decide
  ·rw [Bae9.type ho];decide
  ·rw [Bv9.type ho];decide
 ·obtain ⟨⟨-, n,hn,hk⟩,-⟩:=hl;have hsm:=o_K (c:={ c with V:=XN ae cnt vb,St:=StN (s_P c (possN types types)) ae cnt vb,w0:=w9,rf:=rf}) (ob:=obL [(3,p,C),(4,p2,C2)]) h12 h12' hs;obtain ⟨k1,k2,k3⟩:=hk (lt_ (lt_ ht'.few hsm) (by decide));refine ⟨n,hn,k1,k3.trans ((ht'.bad fun e hbad=>?_).trans ?_)⟩
  ·cases e with
   | inl s pd=>rfl
   | spread n f pd=>rfl
   | _=>cases hbad
  ·have hin:∀ n∈c_H c.ops c.frags,(findD types n).1.kind≠b_f:=fun n hn=>by
    rcases hS.co n hn with h|h|h<;>rw [h]<;>decide
   have hroot:∀ x∈c.ops,rootT c x.kind=lastN Def.name (a_P++types) (rootD (a_F types defs) x.kind):=fun x hx=>by
    obtain ⟨-, -, e1,e2,e3,-⟩:=hwd;rcases (ok1 x hx).1 with h|h|h
    ·rw [m_9 (.inl h),e1,ht,h];rfl
    ·rw [m_8 (by rw [h];rintro (k|k)<;>exact absurd k (by decide)) h,e2,ht,h];rfl
    ·rw [n_a (by rw [h];rintro (k|k)<;>exact absurd k (by decide)) (by rw [h];decide) h,e3,ht,h];rfl
   have hrk:∀ x∈c.ops,(findD types (rootD (a_F types defs) x.kind)).1.kind≠b_f:=fun x hx=>by
    have hne:=hS.rt x hx;unfold rootD at hne ⊢;split at hne
    ·rename_i r hr;show (findD types r.t).1.kind≠b_f;rw [hO.roots.2.2.2 r (List.mem_of_find?_eq_some hr)];decide
    ·exact absurd rfl hne
   have hop:∀ x∈c.ops,((∃ e∈evL c.types c.frags (some x) (rootT c x.kind) x.kids,s_P c (possN types types) e)↔∃ y∈atL types (rootD (a_F types defs) x.kind) x.kids,badNs types c.frags y):=fun x hx=>
    s_8 hO hP ht x.kids _ _ (ok1 x hx).2.2.2 (by rw [hroot x hx];exact j_O hO (hrk x hx)) (by rw [hroot x hx];exact t_e hO _) fun n hn=>hin n (ma_.2 (.inr (mf_.2 ⟨x,hx,hn⟩)))
   have hfr:∀ (cx:Option OpD),∀ f∈c.frags,((∃ e∈evL c.types c.frags cx (lastN Def.name c.types f.on) f.kids,s_P c (possN types types) e)↔∃ y∈atL types f.on f.kids,badNs types c.frags y):=fun cx f hf=>
    s_8 hO hP ht f.kids _ _ (ok2 f hf).2.1 (by rw [ht];exact j_O hO (hin f.on (ma_.2 (.inl (mf_.2 ⟨f,hf,by simp⟩))))) (by rw [ht];exact t_e hO _) fun n hn=>hin n (ma_.2 (.inl (mf_.2 ⟨f,hf,by simp [hn]⟩)))
   have eO:∀ x,(∃ e∈evOp c x,s_P c (possN types types) e)↔∃ e∈evL c.types c.frags (some x) (rootT c x.kind) x.kids,s_P c (possN types types) e:=fun x=>by
    rw [evOp,s_W fun x hx=>t_u hx,s_W fun x hx=>t_g hx,q_5];exact ⟨fun k=>k.resolve_right fun ⟨e,he,hb⟩=>by
     obtain rfl:e=_:=List.mem_singleton.1 he;exact hb,.inl⟩
   have eF:∀ cx f,(∃ e∈evFr c.types c.frags cx f,s_P c (possN types types) e)↔∃ e∈evL c.types c.frags cx (lastN Def.name c.types f.on) f.kids,s_P c (possN types types) e:=fun cx f=>by
    rw [evFr,s_W fun x hx=>t_g hx]
   constructor
   ·have fr:∀ cx,∀ f∈c.frags,∀ e∈evFr c.types c.frags cx f,s_P c (possN types types) e->t_k types (a_F types defs) c.ops c.frags:=fun cx f hf e he hbad=>by
     obtain ⟨y,hy,hyb⟩:=(hfr cx f hf).1 ((eF cx f).1 ⟨e,he,hbad⟩);exact ⟨y,ma_.2 (.inr (mf_.2 ⟨f,hf,hy⟩)),hyb⟩
    rintro ⟨e,⟨x,hx,h|⟨n,f,-, h1,h2⟩⟩|⟨f,hf,(h|⟨n,g,-, h1,h2⟩)|rfl⟩,hbad⟩
    ·obtain ⟨y,hy,hyb⟩:=(hop x hx).1 ((eO x).1 ⟨e,h,hbad⟩);exact ⟨y,ma_.2 (.inl (mf_.2 ⟨x,hx,hy⟩)),hyb⟩
    ·exact fr _ f (a_U h1).1 e h2 hbad
    ·exact fr _ f hf e h hbad
    ·exact fr _ g (a_U h1).1 e h2 hbad
    ·exact hbad.elim
   ·rintro ⟨y,hy,hyb⟩;rcases ma_.1 hy with hy|hy
    ·obtain ⟨x,hx,hy⟩:=mf_.1 hy;obtain ⟨e,he,hb'⟩:=(eO x).2 ((hop x hx).2 ⟨y,hy,hyb⟩);exact ⟨e,.inl ⟨x,hx,.inl he⟩,hb'⟩
    ·obtain ⟨f,hf,hy⟩:=mf_.1 hy;obtain ⟨e,he,hb'⟩:=(eF none f).2 ((hfr none f hf).2 ⟨y,hy,hyb⟩);exact ⟨e,.inr ⟨f,hf,.inl (.inl he)⟩,hb'⟩
theorem s_I {P:Int->Prop}{wd:WorldD}{a1:OA}{l1 c1:Nat}{a2:OA}{l2 c2:Nat}{a6:OA}{l6 c6:Nat}{a7:OA}{l7 c7:Nat}{q8:OA}{q8l q8c:Nat}{q9:OA}{q9l q9c:Nat}{ops:List OpD}{frags:List Frag}{w:World}
  (hw:c_6 w wd [.slice a1 l1 c1,.slice a2 l2 c2,.string wd.query,.string wd.mutation,.string wd.subscription,.slice a6 l6 c6,.slice a7 l7 c7]) (ok3:∀ x∈wd.dirs,∀ y∈x.args,a_s y) (ok4:∀ x∈wd.types,okDef x)
  (few6:(pushD wd.types wd.possible).length<=4194304) (few7:(pushD wd.types wd.implements).length<=4194304) (hl1:ROps w q8 q8l q8c ops) (hl2:a_X w q9 q9l q9c frags) (ok1:∀ x∈ops,okOp x) (ok2:∀ x∈frags,b_j x) (hr:RuleOK 70 wd ops frags P) (hB0:DB.B<=w.heap.size):
  CP 25 #[.agg #[.slice a1 l1 c1,.slice a2 l2 c2,.string wd.query,.string wd.mutation,.string wd.subscription,.slice a6 l6 c6,.slice a7 l7 c7],.agg #[.slice q8 q8l q8c,.slice q9 q9l q9c]] w fun e w'=>
   ∃ n,e=.returned (.tuple #[.int .i64 n,.bool true])/\P n/\EF w w':=by
 have x11:EF w (w.alloc (.cells #[.slice a1 l1 c1,.slice a2 l2 c2,.string wd.query,.string wd.mutation,.string wd.subscription,.slice a6 l6 c6,.slice a7 l7 c7] 40)):=(Ext.refl w).alloc _;have x12:=x11.alloc (.cells #[.slice q8 q8l q8c,.slice q9 q9l q9c] 30);refine s_J a1 l1 c1 a2 l2 c2 wd.query wd.mutation wd.subscription a6 l6 c6 a7 l7 c7 q8 q8l q8c q9 q9l q9c w _ ⟨trivial,trivial,?_⟩;refine (j_d (c_6.keep x12.keep hw) ok3 ok4 few6 few7 (hl1.keep x12.keep) (hl2.keep x12.keep) ok1 ok2 hr (lt_ hB0 x12.size)).mono ?_;rintro _ w' ⟨n,rfl,hp,hx⟩;exact ⟨n,true,rfl,⟨hx.keepT _,hx.keepT _,trivial⟩,n,rfl,hp,x12.then hx⟩
theorem s_Z
  {d1:OA} {d1l d1c:Nat} {d2:OA} {d2l d2c:Nat} {d3:OA} {d3l d3c:Nat} {d4:OA} {d4l d4c:Nat} {d5:OA} {d5l d5c:Nat} {q6:OA} {q6l q6c:Nat} {q7:OA} {q7l q7c:Nat} {defs exts:List SchemaDef} {dirs:List DirDef} {types texts:List Def} {ops:List OpD} {frags:List Frag} {w:World}
  (h1:a_p w d1 d1l d1c defs) (h2:a_p w d2 d2l d2c exts) (h3:a_Y w d3 d3l d3c dirs) (h4:RDefs w d4 d4l d4c types) (h5:RDefs w d5 d5l d5c texts) (hs:d1l+d2l<=4194304) (hsp:docW ops frags<=2097152) (h6:ROps w q6 q6l q6c ops) (h7:a_X w q7 q7l q7c frags) (hB0:DB.B<=w.heap.size):
  CP 5 #[.agg #[.slice d1 d1l d1c,.slice d2 d2l d2c,.slice d3 d3l d3c,.slice d4 d4l d4c,.slice d5 d5l d5c],.agg #[.slice q6 q6l q6c,.slice q7 q7l q7c]] w fun e w'=>e=.returned (.bool true)/\EF w w':=by
 have x8:EF w (w.alloc (.cells #[.slice d1 d1l d1c,.slice d2 d2l d2c,.slice d3 d3l d3c,.slice d4 d4l d4c,.slice d5 d5l d5c] 26)):=(Ext.refl w).alloc _;have x9:=x8.alloc (.cells #[.slice q6 q6l q6c,.slice q7 q7l q7c] 30);refine s_U d1 d1l d1c d2 d2l d2c d3 d3l d3c d4 d4l d4c d5 d5l d5c q6 q6l q6c q7 q7l q7c w _ ⟨trivial,trivial,fun K10 hK10=>?_⟩;have key10:∀ b w',EF w w'->K10 b w':=by
  intro b w' xw;refine hK10 b w' ⟨fun _=>⟨rfl,xw⟩,fun _=>?_⟩;refine (n_5 (h1.keep xw.keep) (h2.keep xw.keep) (h3.keep xw.keep) (h4.keep xw.keep) (h5.keep xw.keep) hs (lt_ hB0 xw.size)).mono ?_;rintro _ w14 ⟨q15,b16,rfl,x14,hok⟩;refine ⟨q15,b16,rfl,⟨x14.keepT _,x14.keepT _,trivial⟩,fun K17 hK17=>?_⟩;have y14:=xw.then x14;have key17:∀ b w',EF w14 w'->(b=false->b16=true/\ops.length<=12/\frags.length<=12/\(∀ x∈ops,okOp x)/\(∀ x∈frags,b_j x)/\SoundD types (a_F types defs) ops frags/\s_T types)->K17 b w':=by
   intro b w19 x19 hb;have y19:=y14.then x19;refine hK17 b w19 ⟨fun _=>⟨rfl,y19⟩,fun hbf=>?_⟩;obtain ⟨hb16,n1,n2,ok1,ok2,hS,hP⟩:=hb hbf;obtain ⟨k,rfl,A,L,C,hB,hR,hO⟩:=hok hb16;intro w20 e20;have x20:EF w19 w20:=by rw [e20];exact (Ext.refl w19).drew
   have y20:=y19.then x20;have z20:=x19.then x20;refine (i_8 (hB.ext z20 id) (h4.keep y20.keep) (hR.keep z20.keep) (h3.keep y20.keep) hO.few.1 (fun t ht=>by have:=hO.small t ht;omega) hO.few.2 (lt_ hB0 y20.size)).mono ?_;rintro _ w22 ⟨cs,rfl,hW,x22⟩;obtain ⟨ok3,ok4,few6,few7⟩:=k_I hO;have hW':=hW;obtain ⟨a1,l1,c1,a2,l2,c2,a6,l6,c6,a7,l7,c7,rfl,-⟩:=hW';have y22:=y20.then x22;refine ⟨a1,l1,c1,a2,l2,c2,_,_,_,a6,l6,c6,a7,l7,c7,rfl,⟨x22.keepT _,x22.keepT _,trivial⟩,⟨rfl,trivial⟩,?_⟩;refine (s_I hW ok3 ok4 few6 few7 (h6.keep y22.keep) (h7.keep y22.keep) ok1 ok2 (t_q types dirs defs ops frags hO n1 n2 ok1 ok2 hsp hS hP) (lt_ hB0 y22.size)).mono ?_;rintro _ w31 ⟨n,rfl,⟨hn0,hn⟩,x31⟩;have y31:=y22.then x31;refine ⟨n,true,rfl,⟨x31.keepT _,x31.keepT _,trivial⟩,trivial,trivial,trivial,?_⟩;have z31:=(z20.then x22).then x31;refine (s_V (lt_ hB0 y31.size) (hB.ext z31 id) (h4.keep y31.keep) (hR.keep z31.keep) (h6.keep y31.keep) (h7.keep y31.keep) ok1 ok2).mono ?_;rintro _ w35 ⟨b36,rfl,x35,hb36⟩;have y35:=y31.then x35;refine ⟨b36,rfl,⟨x35.keepT _,x35.keepT _,trivial⟩,?_⟩;refine (j_9 n true b36 w35).mono ?_;rintro _ w38 ⟨rfl,rfl⟩;refine ⟨_,rfl,⟨(Ext.refl _).keepT _,(Ext.refl _).keepT _,trivial⟩,?_,y35⟩;rw [n_f hn0 (hn.trans hb36.symm)]
  refine ⟨fun hb=>?_,fun hb=>key17 true w14 (Ext.refl w14) nofun⟩;refine (n_7 (h6.keep y14.keep) (h7.keep y14.keep)).mono ?_;rintro _ w41 ⟨b42,rfl,x41,hsm⟩;have y41:=y14.then x41;refine ⟨b42,rfl,⟨x41.keepT _,x41.keepT _,trivial⟩,fun h42=>?_,fun _=>key17 true w41 x41 nofun⟩;obtain ⟨n1,n2,ok1,ok2⟩:=hsm (by simpa using h42);obtain ⟨k,rfl,A,L,C,hB,hR,hO⟩:=hok (by simpa using hb);refine (i_c (hB.ext x41 id) (h4.keep y41.keep) (hR.keep x41.keep) (h6.keep y41.keep) (h7.keep y41.keep) ok1 ok2 n2 hsp).mono ?_;rintro _ w53 ⟨b54,rfl,x53,hS⟩;have z53:=x41.then x53;have y53:=y41.then x53;refine ⟨b54,rfl,⟨x53.keepT _,x53.keepT _,trivial⟩,fun h54=>?_,fun _=>key17 true w53 z53 nofun⟩;have hS':=hS (by simpa using h54);refine (s_0 (hB.ext z53 id) (h4.keep y53.keep)).mono ?_;rintro _ w56 ⟨b57,rfl,x56,hP⟩;exact ⟨b57,rfl,⟨x56.keepT _,x56.keepT _,trivial⟩,key17 _ w56 (z53.then x56) fun h=>⟨by simpa using hb,n1,n2,ok1,ok2,hS',hP.1 (by simpa using h)⟩⟩
 refine (f_4 d1 d1l d1c d2 d2l d2c d3 d3l d3c d4 d4l d4c d5 d5l d5c _).mono ?_;rintro _ w44 ⟨b45,rfl,x44,-⟩;have y44:=x9.then x44;refine ⟨b45,rfl,⟨x44.keepT _,x44.keepT _,trivial⟩,fun _=>?_,fun _=>key10 true w44 y44⟩;refine (f_5 q6 q6l q6c q7 q7l q7c _).mono ?_;rintro _ w47 ⟨b48,rfl,x47,-⟩;exact ⟨b48,rfl,⟨x47.keepT _,x47.keepT _,trivial⟩,key10 _ w47 (y44.then x47)⟩
end Go.VC
