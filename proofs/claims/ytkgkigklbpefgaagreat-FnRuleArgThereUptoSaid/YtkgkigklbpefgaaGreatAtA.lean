/- Part of the proof of a law of a rule over documents (AtA), where what the arguments hold is of bulk at most 1048576. -/
import Derived.Test.YtkgkigklbpefgaaGreatBaseB
import Derived.Test.YtkgkigklbpefgaaGreatWalkD
import Derived.Test.YtkgkigklbpefgaaGreatMakeC
import Derived.Test.YtkgkigklbpefgaaGreatSpecE
import Derived.Test.YtkgkigklbpefgaaGreatSpecD
import Derived.ArgAppend
import Derived.Test.YtkgkigklbpefgaaGreatWalkC
import Derived.Test.YtkgkigklbpefgaaGreatLawA
set_option linter.unusedVariables false
set_option linter.unusedSimpArgs false
set_option linter.unusedSectionVars false
namespace Go.VC
open Go Go.Proofs
set_option maxRecDepth 100000
theorem u_A (a:OA)(b:Value)(w:World)(R:EW)(h:
 (b.oneCell'=true/\True)/\(let c:=w.alloc (.cells #[b] 161);
 C0 145 #[P9 a,(.func (.func 146) #[] #[(P9 (some (adr w.heap.size)))])] c (fun d=>True/\C0 114 #[P9 a,(.func (.func 148) #[] #[(P9 (some (adr w.heap.size)))])] d (fun e=>True/\R (R9 (.tuple #[])) e)))):CP 85 #[P9 a,b] w R:=
 vcq Tryz.func85 [] [] [.l (.optr a),.l (.val b)] h
theorem u_y (a:OA)(b:OA)(c:Addr)(w:World)(R:EW)(h:
 Pt b fun d=>Lp w (d.add 7) fun e=>(Br (e.isNone) (R (R9 (.tuple #[])) w) (Pt b fun f=>Lp w (f.add 7) fun g=>Pt g fun i=>Ll w (i.add 2) fun j k l=>∃ (m:Int->World->Prop) (n:Int->World->Nat),m 0 w/\
 (∀ o:Int,∀ p:World,m o p->
 (Br (decide (o<(k:Int))) (∀ q:World->Prop,(∀ r:World,
 ((m (wr (o+1)) r/\n (wr (o+1)) r<n o p))->
 q r)->
 Ix j o k fun s=>Lp p (s.add (o.toNat*1)) fun t=>Pt t fun u=>Lp p (u.add 3) fun v=>Pt v fun x=>Lb p (x.add 2) fun y=>(Br (!y) (q p) (Pt t fun z=>Lp p (z.add 2) fun A=>(Br (!A.isNone) (q p) (Pt b fun B=>Ll p (B.add 2) fun C D E=>∃ (F:Int->World->Prop) (G:Int->World->Nat),F 0 p/\
 (∀ H:Int,∀ I:World,F H I->
 (Br (decide (H<(D:Int))) (Ix C H D fun J=>Lp I (J.add (H.toNat*1)) fun K=>∀ L,L=I.drew->Pt K fun M=>Ls L M fun N=>Pt t fun O=>Ls L (O.add 1) fun P=>(Br (N.toList==P.toList) (q L) ((F (wr (H+1)) L/\G (wr (H+1)) L<G H I)))) (∀ Q,Q=I.drew->Lv Q c fun S=>Pt b fun U=>Ls Q (U.add 1) fun V=>Pt t fun W=>Ls Q (W.add 1) fun X=>Pt t fun Y=>Lp Q (Y.add 3) fun Z=>Pt b fun aa=>Lp Q (aa.add 5) fun ab=>Cs 147 #[P9 Z] Q (fun ac ad=>True/\((ad.cell? (aa.add 5)=Q.cell? (aa.add 5))/\(ad.cell? (W.add 1)=Q.cell? (W.add 1))/\(ad.cell? (U.add 1)=Q.cell? (U.add 1))/\(ad.cell? c=Q.cell? c)/\True)/\True/\(let ae:=ad.alloc (.cells #[(ifcV (some (9,(T9 V)))),(ifcV (some (9,(T9 X)))),(ifcV (some (9,(T9 ac))))] 20);
 ((ae.cell? (aa.add 5)=ad.cell? (aa.add 5))/\(ae.cell? c=ad.cell? c)/\True)/\CP 116 #[(T9 (⟨#[70,105,101,108,100,32,34,37,115,34,32,97,114,103,117,109,101,110,116,32,34,37,115,34,32,111,102,32,116,121,112,101,32,34,37,115,34,32,105,115,32,114,101,113,117,105,114,101,100,44,32,98,117,116,32,105,116,32,119,97,115,32,110,111,116,32,112,114,111,118,105,100,101,100,46]⟩:BA)),(S9 (some (adr ad.heap.size)) 3 3)] ae (fun af ag=>∃ ah:Value,af=R9 ah/\True/\((ag.cell? (aa.add 5)=ae.cell? (aa.add 5))/\(ag.cell? c=ae.cell? c)/\True)/\CP 117 #[P9 ab] ag (fun ai aj=>∃ ak:Value,ai=R9 ak/\True/\((aj.cell? c=ag.cell? c)/\True)/\(ah.oneCell'=true/\ak.oneCell'=true/\True)/\(let al:=aj.alloc (.cells #[ah,ak] 181);
 ((al.cell? c=aj.cell? c)/\True)/\∃ am an,S=.func (.func am) #[] an.toArray/\∃ ao,Tryz.prog.funcs[am]? =some ao/\(ao.name== "runtime.NumGoroutine" ||ao.body.isNone)=false/\CP am ([(S9 (some (adr aj.heap.size)) 2 2)]++an).toArray al (fun ap aq=>ap=R9 (.tuple #[])/\True/\True/\q aq)))))))))))))) (R (R9 (.tuple #[])) p)))))):CP 146 #[P9 a,P9 b,(P9 (some c))] w R:=
 vcq Tryz.func146 [] [(12,⟨[(22,.int .i64)],[]⟩),(19,⟨[],[]⟩),(39,⟨[(44,.int .i64)],[]⟩)] [.l (.optr a),.l (.optr b),.l (.ptr c)] h
theorem u_z (a:OA)(b:OA)(c:Addr)(w:World)(R:EW)(h:
 Pt b fun d=>Lp w (d.add 4) fun e=>(Br (e.isNone) (R (R9 (.tuple #[])) w) (Pt b fun f=>Lp w (f.add 4) fun g=>Pt g fun i=>Ll w (i.add 2) fun j k l=>∃ (m:Int->World->Prop) (n:Int->World->Nat),m 0 w/\
 (∀ o:Int,∀ p:World,m o p->
 (Br (decide (o<(k:Int))) (∀ q:World->Prop,(∀ r:World,
 ((m (wr (o+1)) r/\n (wr (o+1)) r<n o p))->
 q r)->
 Ix j o k fun s=>Lp p (s.add (o.toNat*1)) fun t=>Pt t fun u=>Lp p (u.add 3) fun v=>Pt v fun x=>Lb p (x.add 2) fun y=>(Br (!y) (q p) (Pt t fun z=>Lp p (z.add 2) fun A=>(Br (!A.isNone) (q p) (Pt b fun B=>Ll p (B.add 1) fun C D E=>∃ (F:Int->World->Prop) (G:Int->World->Nat),F 0 p/\
 (∀ H:Int,∀ I:World,F H I->
 (Br (decide (H<(D:Int))) (Ix C H D fun J=>Lp I (J.add (H.toNat*1)) fun K=>∀ L,L=I.drew->Pt K fun M=>Ls L M fun N=>Pt t fun O=>Ls L (O.add 1) fun P=>(Br (N.toList==P.toList) (q L) ((F (wr (H+1)) L/\G (wr (H+1)) L<G H I)))) (∀ Q,Q=I.drew->Lv Q c fun S=>Pt b fun U=>Lp Q (U.add 4) fun V=>Pt V fun W=>Ls Q (W.add 1) fun X=>Pt t fun Y=>Ls Q (Y.add 1) fun Z=>Pt t fun aa=>Lp Q (aa.add 3) fun ab=>Pt b fun ac=>Lp Q (ac.add 2) fun ad=>Cs 147 #[P9 ab] Q (fun ae af=>True/\((af.cell? (ac.add 2)=Q.cell? (ac.add 2))/\(af.cell? (Y.add 1)=Q.cell? (Y.add 1))/\(af.cell? (W.add 1)=Q.cell? (W.add 1))/\(af.cell? (U.add 4)=Q.cell? (U.add 4))/\(af.cell? c=Q.cell? c)/\True)/\True/\(let ag:=af.alloc (.cells #[(ifcV (some (9,(T9 X)))),(ifcV (some (9,(T9 Z)))),(ifcV (some (9,(T9 ae))))] 20);
 ((ag.cell? (ac.add 2)=af.cell? (ac.add 2))/\(ag.cell? c=af.cell? c)/\True)/\CP 116 #[(T9 (⟨#[68,105,114,101,99,116,105,118,101,32,34,64,37,115,34,32,97,114,103,117,109,101,110,116,32,34,37,115,34,32,111,102,32,116,121,112,101,32,34,37,115,34,32,105,115,32,114,101,113,117,105,114,101,100,44,32,98,117,116,32,105,116,32,119,97,115,32,110,111,116,32,112,114,111,118,105,100,101,100,46]⟩:BA)),(S9 (some (adr af.heap.size)) 3 3)] ag (fun ah ai=>∃ aj:Value,ah=R9 aj/\True/\((ai.cell? (ac.add 2)=ag.cell? (ac.add 2))/\(ai.cell? c=ag.cell? c)/\True)/\CP 117 #[P9 ad] ai (fun ak al=>∃ am:Value,ak=R9 am/\True/\((al.cell? c=ai.cell? c)/\True)/\(aj.oneCell'=true/\am.oneCell'=true/\True)/\(let an:=al.alloc (.cells #[aj,am] 181);
 ((an.cell? c=al.cell? c)/\True)/\∃ ao ap,S=.func (.func ao) #[] ap.toArray/\∃ aq,Tryz.prog.funcs[ao]? =some aq/\(aq.name== "runtime.NumGoroutine" ||aq.body.isNone)=false/\CP ao ([(S9 (some (adr al.heap.size)) 2 2)]++ap).toArray an (fun ar au=>ar=R9 (.tuple #[])/\True/\True/\q au)))))))))))))) (R (R9 (.tuple #[])) p)))))):CP 148 #[P9 a,P9 b,(P9 (some c))] w R:=
 vcq Tryz.func148 [] [(12,⟨[(22,.int .i64)],[]⟩),(19,⟨[],[]⟩),(39,⟨[(44,.int .i64)],[]⟩)] [.l (.optr a),.l (.optr b),.l (.ptr c)] h
theorem u_C (a:OA)(b c:Nat)(d:OA)(e f:Nat)(g:BA)(i:BA)(j:BA)(k:OA)(l m:Nat)(n:OA)(o p:Nat)(q:OA)(r s:Nat)(t:OA)(u v:Nat)(w:World)(R:EW)(h:
 True/\(let x:=w.alloc (.cells #[S9 a b c,S9 d e f,T9 g,T9 i,T9 j,S9 k l m,S9 n o p] 40);
 True/\(let y:=x.alloc (.cells #[S9 q r s,S9 t u v] 30);
 CP 56 #[(.agg #[S9 a b c,S9 d e f,T9 g,T9 i,T9 j,S9 k l m,S9 n o p]),(.agg #[S9 q r s,S9 t u v]),(.func (.func 85) #[] #[])] y (fun z A=>∃ B,∃ C,z=R9 (.tuple #[N9 B,.bool C])/\(KeepT 40 y A/\KeepT 30 y A/\True)/\R (R9 (.tuple #[N9 B,.bool C])) A)))):CP 38 #[(.agg #[S9 a b c,S9 d e f,T9 g,T9 i,T9 j,S9 k l m,S9 n o p]),(.agg #[S9 q r s,S9 t u v])] w R:=
 vcq Tryz.func38 [2,3] [] [.agg [.slice a b c,.slice d e f,.str g,.str i,.str j,.slice k l m,.slice n o p],.agg [.slice q r s,.slice t u v]] h
set_option maxRecDepth 100000
theorem d_t (a:OA)(b:Value)(w:World)(R:EW)(h:
 Pt a fun c=>Ll w (c.add 1) fun d e f=>(b.oneCell'=true/\True)/\(let g:=w.alloc (.cells #[b] 292);
 ∃ i j k,∃ l,(Go.builtin .append #[148,148] 148 #[false,false] #[S9 d e f,(S9 (some (adr w.heap.size)) 1 1)]).run Tryz.prog g=.ok (.value (S9 i j k)) l/\True/\Pt a fun m=>Off l (m.add 1) 1 []/\True/\(let n:=(l.setCell (m.add 1) (S9 i j k));
 R (R9 (.tuple #[])) n))):CP 145 #[P9 a,b] w R:=
 vcq Tryz.func145 [] [] [.l (.optr a),.l (.val b)] h
variable [DB]
theorem c_9 {eb:Nat}{f:Value}{evs:List Value}{w:World}(hf:a_v f)(hB:Blk w eb 157 evs)(hj:evs[1]? =some (.slice none 0 0)):
  CP 145 #[.pointer (some (adr eb)),f] w fun e w'=>e=.returned (.tuple #[])/\∃ (p:Addr) (C:Nat),Blk w' eb 157 (evs.set 1 (.slice (some p) 1 C))/\At w' 292 p f/\w.heap.size<=p.block/\Ext (fun b=>b=eb) w w':=by
 obtain ⟨p,C,w7,r7,ha,hp,hx,-⟩:=m_z 148 292 Tryz.t292 _ _ (by kernel_rfl) (by kernel_rfl) rfl (by kernel_rfl) rfl (by kernel_rfl) (by decide) (w:=w) hf 148 #[false,false];have hB7:=hB.ext hx id;have hlt:=hB.lt;have hl:1+1<=evs.length:=(List.getElem?_eq_some_iff.1 hj).1;have hs:Ext (fun b=>b=eb) w7 (w7.setCell ⟨eb,1,none⟩ (.slice (some p) 1 C)):=Ext.setCell (X:=fun b=>b=eb) (Ext.refl _) (a:=⟨eb,1,none⟩) (.inl rfl) _;refine d_t (some (adr eb)) f w _ ⟨adr eb,rfl,none,0,0,(hB.at (j:=1) hj).cell,⟨hf.one,trivial⟩,some p,1,C,w7,r7,trivial,adr eb,rfl,hB7.off (j:=1) (n:=1) (q:=fun _=>false) hl rfl,trivial,rfl,p,C,hB7.set 1 _,hs.at (by show ¬ p.block=eb;omega) ha,hp,(hx.toM _).trans hs fun _ _ e=>e⟩
end Go.VC
namespace Go.VC
open Go Go.Proofs
set_option maxRecDepth 100000
theorem p_T (a:OA)(b:Value)(w:World)(R:EW)(h:
 Pt a fun c=>Ll w (c.add 5) fun d e f=>(b.oneCell'=true/\True)/\(let g:=w.alloc (.cells #[b] 197);
 ∃ i j k,∃ l,(Go.builtin .append #[152,152] 152 #[false,false] #[S9 d e f,(S9 (some (adr w.heap.size)) 1 1)]).run Tryz.prog g=.ok (.value (S9 i j k)) l/\True/\Pt a fun m=>Off l (m.add 5) 1 []/\True/\(let n:=(l.setCell (m.add 5) (S9 i j k));
 R (R9 (.tuple #[])) n))):CP 114 #[P9 a,b] w R:=
 vcq Tryz.func114 [] [] [.l (.optr a),.l (.val b)] h
variable [DB]
theorem p_S {eb:Nat}{f:Value}{evs:List Value}{w:World}(hf:a_v f)(hB:Blk w eb 157 evs)(hj:evs[5]? =some (.slice none 0 0)):
  CP 114 #[.pointer (some (adr eb)),f] w fun e w'=>e=.returned (.tuple #[])/\∃ (p:Addr) (C:Nat),Blk w' eb 157 (evs.set 5 (.slice (some p) 1 C))/\At w' 197 p f/\w.heap.size<=p.block/\Ext (fun b=>b=eb) w w':=by
 obtain ⟨p,C,w7,r7,ha,hp,hx,-⟩:=m_z 152 197 Tryz.t197 _ _ (by kernel_rfl) (by kernel_rfl) rfl (by kernel_rfl) rfl (by kernel_rfl) (by decide) (w:=w) hf 152 #[false,false];have hB7:=hB.ext hx id;have hlt:=hB.lt;have hl:5+1<=evs.length:=(List.getElem?_eq_some_iff.1 hj).1;have hs:Ext (fun b=>b=eb) w7 (w7.setCell ⟨eb,5,none⟩ (.slice (some p) 1 C)):=Ext.setCell (X:=fun b=>b=eb) (Ext.refl _) (a:=⟨eb,5,none⟩) (.inl rfl) _;refine p_T (some (adr eb)) f w _ ⟨adr eb,rfl,none,0,0,(hB.at (j:=5) hj).cell,⟨hf.one,trivial⟩,some p,1,C,w7,r7,trivial,adr eb,rfl,hB7.off (j:=5) (n:=1) (q:=fun _=>false) hl rfl,trivial,rfl,p,C,hB7.set 5 _,hs.at (by show ¬ p.block=eb;omega) ha,hp,(hx.toM _).trans hs fun _ _ e=>e⟩
abbrev StK (bad:Ev->Prop)(ae cnt:Nat)(l:List Ev)(w:World):Prop:=Cnt ae cnt (l.length*4194304) (∃ e∈l,bad e) w
abbrev InK (bad:Ev->Prop)(ae cnt:Nat)(l:List Ev)(k:Nat)(b:Prop)(w:World):Prop:=Cnt ae cnt (l.length*4194304+k) ((∃ e∈l,bad e)∨b) w
theorem InK.start {bad:Ev->Prop}{ae cnt:Nat}{l:List Ev}{w:World}{b:Prop}(h:StK bad ae cnt l w)(hb:¬ b):InK bad ae cnt l 0 b w:=Cnt.skip h (by omega) ⟨.inl,fun k=>k.elim id fun k=>absurd k hb⟩
theorem InK.good {bad:Ev->Prop}{ae cnt:Nat}{l:List Ev}{w:World}{k k':Nat}{b b':Prop}(h:InK bad ae cnt l k b w)(hk:k<=k')(hb:b↔b'):InK bad ae cnt l k' b' w:=Cnt.skip h (by omega) ⟨fun k=>k.imp id hb.1,fun k=>k.imp id hb.2⟩
theorem InK.told {bad:Ev->Prop}{ae cnt:Nat}{l:List Ev}{w:World}{k k':Nat}{b':Prop}(h:Cnt ae cnt (l.length*4194304+k+1) True w)(hk:k+1<=k')(hb:b'):InK bad ae cnt l k' b' w:=Cnt.skip h (by omega) ⟨fun _=>.inr hb,fun _=>trivial⟩
theorem InK.stop {bad:Ev->Prop}{ae cnt:Nat}{l:List Ev}{w:World}{k:Nat}{b:Prop}{ev:Ev}(h:InK bad ae cnt l k b w)(hk:k<=4194304)(hb:b↔bad ev):StK bad ae cnt (l++[ev]) w:=
 Cnt.skip h (by rw [la_,List.length_cons,List.length_nil];omega) (Iff.trans ⟨fun k=>k.imp id hb.1,fun k=>k.imp id hb.2⟩ i_p.symm)
end Go.VC
namespace Go.VC
open Go Go.Proofs
set_option maxRecDepth 100000
theorem b_S (a:OA)(w:World)(R:EW)(h:
 ∀ b:BA->World->Prop,(∀ c:BA,∀ d:World,
 (Pt a fun e=>Ls d e fun f=>(Br (!(f.toList==(⟨#[]⟩:BA).toList)) (Pt a fun g=>Ls d g fun i=>∃ j,∃ k,(eqGuard .add 9 (Operand.tmp 16) (Operand.tmp 17) (T9 i) (T9 c)).run Tryz.prog d=.ok () d/\(binOp .add 9 (T9 i) (T9 c)).run Tryz.prog d=.ok (T9 j) k/\True/\R (R9 (T9 j)) k) (Pt a fun l=>Lp d (l.add 1) fun m=>Cs 147 #[P9 m] d (fun n o=>True/\∃ p,∃ q,(eqGuard .add 9 (Operand.const (T9 (⟨#[91]⟩:BA))) (Operand.tmp 23) (T9 (⟨#[91]⟩:BA)) (T9 n)).run Tryz.prog o=.ok () o/\(binOp .add 9 (T9 (⟨#[91]⟩:BA)) (T9 n)).run Tryz.prog o=.ok (T9 p) q/\True/\∃ r,∃ s,(eqGuard .add 9 (Operand.tmp 24) (Operand.const (T9 (⟨#[93]⟩:BA))) (T9 p) (T9 (⟨#[93]⟩:BA))).run Tryz.prog q=.ok () q/\(binOp .add 9 (T9 p) (T9 (⟨#[93]⟩:BA))).run Tryz.prog q=.ok (T9 r) s/\True/\∃ t,∃ u,(eqGuard .add 9 (Operand.tmp 25) (Operand.tmp 26) (T9 r) (T9 c)).run Tryz.prog s=.ok () s/\(binOp .add 9 (T9 r) (T9 c)).run Tryz.prog s=.ok (T9 t) u/\True/\R (R9 (T9 t)) u))))->
 b c d)->
 Pt a fun v=>Lb w (v.add 2) fun x=>(Br x (b (⟨#[33]⟩:BA) w) (b (⟨#[]⟩:BA) w))):CP 147 #[P9 a] w R:=
 vcq Tryz.func147 [] [(4,⟨[(3,.str)],[]⟩)] [.l (.optr a)] h
variable [DB]
theorem c_B {c:WCtx}:∀ (t:Typ) (b:Nat) (w:World),Wk c c.w0 w->PTyp c.M c.w0 t b->okTyp t->typW t<=2097152->CP 147 #[.pointer (some (adr b))] w fun e w'=>∃ s,e=.returned (.string s)/\s.size<=4*typW t/\w'=w
 | .mk n [] nn,b,w,hwk,hp,hok,hs=>by
  simp only [PTyp] at hp;obtain ⟨q,pos,hM,hB,-⟩:=hp;have hn:n≠E0:=by simpa [okTyp] using hok
  simp only [typW,typsW] at hs ⊢;have c0:=hwk.nd hM hB (j:=0) rfl rfl;refine b_S (some (adr b)) w _ fun K2 hK2=>?_;have key:∀ s:BA,s.size<=1->K2 s w:=fun s h1=>hK2 s w ⟨adr b,rfl,n,c0,fun _=>⟨adr b,rfl,n,c0,_,_,b_E,b_q (by omega) (by omega),trivial,_,rfl,by rw [ByteArray.size_append];omega,rfl⟩,fun h=>absurd (b_2 h) hn⟩;exact ⟨adr b,rfl,nn,hwk.nd hM hB (j:=2) rfl rfl,fun _=>key _ (by decide),fun _=>key _ (by decide)⟩
 | .mk n (t::l) nn,b,w,hwk,hp,hok,hs=>by
  simp only [PTyp,PTypE] at hp;obtain ⟨q,pos,hM,hB,eb,rfl,ht⟩:=hp;have hl:l=[]/\n=E0/\okTyp t:=by
   cases l with
   | nil=>exact ⟨rfl,by simpa [okTyp] using hok⟩
   | cons y l=>exact absurd hok (by simp [okTyp])
  obtain ⟨rfl,rfl,hot⟩:=hl;simp only [typW,typsW] at hs ⊢;have c0:=hwk.nd hM hB (j:=0) rfl rfl;refine b_S (some (adr b)) w _ fun K2 hK2=>?_;have key:∀ s:BA,s.size<=1->K2 s w:=fun s h1=>hK2 s w ⟨adr b,rfl,E0,c0,fun h=>by simp at h,fun _=>⟨adr b,rfl,_,hwk.nd hM hB (j:=1) rfl rfl,(c_B t eb w hwk ht hot (by omega)).mono fun e w' ⟨s',he,hs',hw'⟩=>by
   subst he;subst hw';have e1:(⟨#[91]⟩:BA).size=1:=rfl;have e2:(⟨#[93]⟩:BA).size=1:=rfl;have e3:E0.size=0:=rfl;refine ⟨s',rfl,trivial,_,_,b_E,b_q (by omega) (by omega),trivial,_,_,b_E,b_q (by rw [ByteArray.size_append];omega) (by omega),trivial,_,_,b_E,b_q (by rw [ByteArray.size_append,ByteArray.size_append];omega) (by omega),trivial,_,rfl,?_,rfl⟩;rw [ByteArray.size_append,ByteArray.size_append,ByteArray.size_append];omega⟩⟩
  exact ⟨adr b,rfl,nn,hwk.nd hM hB (j:=2) rfl rfl,fun _=>key _ (by decide),fun _=>key _ (by decide)⟩
end Go.VC
namespace Go.VC
open Go Go.Proofs
set_option maxRecDepth 100000
theorem q_g (a:OA)(b:OA)(c d:Nat)(e:OA)(f g:Nat)(i:Value)(w:World)(R:EW)(h:
 True/\(let j:=w.alloc (.cells #[P9 a] 33);
 True/\(let k:=j.alloc (.cells #[S9 b c d,S9 e f g] 30);
 (i.oneCell'=true/\True)/\(let l:=k.alloc (.cells #[i] 97);
 Lp l (adr w.heap.size) fun m=>C0 51 #[P9 m,(.agg #[S9 b c d,S9 e f g]),(.func (.func 113) #[] #[(P9 (some (adr w.heap.size))),(P9 (some (adr k.heap.size)))])] l (fun n=>(KeepT 30 l n/\True)/\Cl 66 #[(.agg #[S9 b c d,S9 e f g])] n (fun o p q r=>(KeepT 30 n r/\True)/\∃ (s:Int->World->Prop) (t:Int->World->Nat),s 0 r/\
 (∀ u:Int,∀ v:World,s u v->
 (Br (decide (u<(p:Int))) (Ix o u p fun x=>Ll v (x.add (u.toNat*2)) fun y z A=>Ls v ((x.add (u.toNat*2)).add 1) fun B=>True/\True/\(let D:=v.alloc (.cells #[S9 y z A,T9 B] 101);
 ∃ (E:Int->World->Prop) (F:Int->World->Nat),E 0 D/\
 (∀ G:Int,∀ H:World,E G H->
 (Br (decide (G<(z:Int))) (∀ I:World->Prop,(∀ J:World,
 ((E (wr (G+1)) J/\F (wr (G+1)) J<F G H))->
 I J)->
 Ix y G z fun K=>L_sl H (K.add (G.toNat*2)) fun L M N O=>True/\True/\(let Q:=H.alloc (.cells #[T9 L,S9 M N O] 103);
 Lp Q (adr w.heap.size) fun S=>CP 67 #[P9 S,T9 L] Q (fun U V=>∃ W,∃ X,∃ Y Z aa,∃ ab ac ad,∃ ae,∃ af,U=R9 (.tuple #[(.agg #[T9 W,T9 X,S9 Y Z aa,S9 ab ac ad,.bool ae]),.bool af])/\(KeepT 30 Q V/\KeepT 101 Q V/\KeepT 103 Q V/\True)/\True/\True/\(let ah:=V.alloc (.cells #[T9 W,T9 X,S9 Y Z aa,S9 ab ac ad,.bool ae] 105);
 (Br af (Lv ah (adr k.heap.size) fun ai=>∃ aj ak,ai=.func (.func aj) #[] ak.toArray/\∃ al,Tryz.prog.funcs[aj]? =some al/\(al.name== "runtime.NumGoroutine" ||al.body.isNone)=false/\CP aj ([S9 M N O,S9 Y Z aa]++ak).toArray ah (fun am an=>am=R9 (.tuple #[])/\(KeepT 30 ah an/\KeepT 101 ah an/\KeepT 103 ah an/\KeepT 105 ah an/\True)/\I an)) (I ah)))))) ((s (wr (u+1)) H/\t (wr (u+1)) H<t u v)))))) (R (R9 (.tuple #[])) v))))))))):CP 62 #[P9 a,(.agg #[S9 b c d,S9 e f g]),i] w R:=
 vcq Tryz.func62 [4,7,9,10] [(7,⟨[(19,.int .i64)],[]⟩),(21,⟨[(26,.int .i64)],[]⟩),(28,⟨[],[]⟩)] [.l (.optr a),.agg [.slice b c d,.slice e f g],.l (.val i)] h
theorem p_9 (a:Int)(b:BA)(c:BA)(d:BA)(e:OA)(f g:Nat)(i:OA)(j k:Nat)(l:OA)(m n:Nat)(o:BA)(p:Addr)(q:Addr)(w:World)(R:EW)(h:
 True/\(let r:=w.alloc (.cells #[N9 a,T9 b,T9 c,T9 d,S9 e f g,S9 i j k,S9 l m n] 67);
 Lp r p fun s=>CP 53 #[P9 s,T9 o,T9 c] r (fun t u=>∃ v,∃ x,∃ y z A,∃ B C D,∃ E,∃ F G H,∃ I,∃ J K L,∃ M,t=R9 (.tuple #[(.agg #[T9 v,T9 x,S9 y z A,S9 B C D,T9 E,S9 F G H,.bool I,S9 J K L]),.bool M])/\(KeepT 67 r u/\True)/\True/\True/\(let O:=u.alloc (.cells #[T9 v,T9 x,S9 y z A,S9 B C D,T9 E,S9 F G H,.bool I,S9 J K L] 70);
 ∀ P:Bool->World->Prop,(∀ Q:Bool,∀ S:World,
 ((Br Q (Lv S q fun U=>∃ V W,U=.func (.func V) #[] W.toArray/\∃ X,Tryz.prog.funcs[V]? =some X/\(X.name== "runtime.NumGoroutine" ||X.body.isNone)=false/\CP V ([S9 e f g,S9 y z A]++W).toArray S (fun Y Z=>Y=R9 (.tuple #[])/\(KeepT 67 S Z/\KeepT 70 S Z/\True)/\R (R9 (.tuple #[])) Z)) (R (R9 (.tuple #[])) S)))->
 P Q S)->
 (Br (a==0) (P M O) (P false O)))))):CP 113 #[(.agg #[N9 a,T9 b,T9 c,T9 d,S9 e f g,S9 i j k,S9 l m n]),T9 o,(P9 (some p)),(P9 (some q))] w R:=
 vcq Tryz.func113 [4,6] [(4,⟨[(21,.bool)],[]⟩)] [.agg [.int .i64 a,.str b,.str c,.str d,.slice e f g,.slice i j k,.slice l m n],.l (.str o),.l (.ptr p),.l (.ptr q)] h
set_option maxRecDepth 100000
theorem g_x (a:OA)(b:OA)(c d:Nat)(e:OA)(f g:Nat)(w:World)(R:EW)(h:
 True/\(let i:=w.alloc (.cells #[P9 a] 33);
 True/\(let j:=i.alloc (.cells #[S9 b c d,S9 e f g] 30);
 True/\(let k:=j.alloc (.cells #[.bool false] 4);
 Off k (adr j.heap.size) 1 [30]/\True/\(let l:=(k.setCell (adr j.heap.size) (.bool false));
 Lp l (adr w.heap.size) fun m=>C0 51 #[P9 m,(.agg #[S9 b c d,S9 e f g]),(.func (.func 52) #[] #[(P9 (some (adr w.heap.size))),(P9 (some (adr j.heap.size)))])] l (fun n=>(KeepT 30 l n/\True)/\Lb n (adr j.heap.size) fun o=>R (R9 (.bool o)) n)))))):CP 16 #[P9 a,(.agg #[S9 b c d,S9 e f g])] w R:=
 vcq Tryz.func16 [3] [] [.l (.optr a),.agg [.slice b c d,.slice e f g]] h
theorem e_5 (a:Int)(b:BA)(c:BA)(d:BA)(e:OA)(f g:Nat)(i:OA)(j k:Nat)(l:OA)(m n:Nat)(o:BA)(p:Addr)(q:Addr)(w:World)(R:EW)(h:
 True/\(let r:=w.alloc (.cells #[N9 a,T9 b,T9 c,T9 d,S9 e f g,S9 i j k,S9 l m n] 67);
 Lp r p fun s=>CP 53 #[P9 s,T9 o,T9 c] r (fun t u=>∃ v,∃ x,∃ y z A,∃ B C D,∃ E,∃ F G H,∃ I,∃ J K L,∃ M,t=R9 (.tuple #[(.agg #[T9 v,T9 x,S9 y z A,S9 B C D,T9 E,S9 F G H,.bool I,S9 J K L]),.bool M])/\(KeepT 67 r u/\True)/\True/\True/\(let O:=u.alloc (.cells #[T9 v,T9 x,S9 y z A,S9 B C D,T9 E,S9 F G H,.bool I,S9 J K L] 70);
 ∀ P:World->Prop,(∀ Q:World,
 (Lb Q q fun S=>(Nr S ((Br (a==0) ((Br (c.toList==(⟨#[95,95,116,121,112,101,110,97,109,101]⟩:BA).toList) (Off Q q 1 [67,70]/\True/\(let U:=(Q.setCell q (.bool (decide ((m:Int)>0))));
 R (R9 (.tuple #[])) U)) (Off Q q 1 [67,70]/\True/\(let V:=(Q.setCell q (.bool false));
 R (R9 (.tuple #[])) V)))) (Off Q q 1 [67,70]/\True/\(let W:=(Q.setCell q (.bool false));
 R (R9 (.tuple #[])) W)))) (Off Q q 1 [67,70]/\True/\(let X:=(Q.setCell q (.bool true));
 R (R9 (.tuple #[])) X))))->
 P Q)->
 ∀ Y:Bool->World->Prop,(∀ Z:Bool,∀ aa:World,
 ((Br Z (∀ ab,ab=aa.drew->Lb ab q fun ac=>(Br ac (Off ab q 1 [67,70]/\True/\(let ad:=(ab.setCell q (.bool true));
 True/\P ad)) (Lp ab p fun ae=>Cs 55 #[P9 ae,(.agg #[T9 E,S9 F G H,.bool I])] ab (fun af ag=>(KeepT 67 ab ag/\KeepT 70 ab ag/\True)/\((0=0)/\True)/\Cb 54 #[T9 af] ag (fun ah ai=>(KeepT 67 ag ai/\KeepT 70 ag ai/\True)/\((0=0)/\True)/\Off ai q 1 [67,70]/\True/\(let aj:=(ai.setCell q (.bool (!(ah==(decide ((m:Int)>0))))));
 True/\P aj)))))) (P aa)))->
 Y Z aa)->
 (Br (a==0) (Y M O) (Y false O)))))):CP 52 #[(.agg #[N9 a,T9 b,T9 c,T9 d,S9 e f g,S9 i j k,S9 l m n]),T9 o,(P9 (some p)),(P9 (some q))] w R:=
 vcq Tryz.func52 [4,6] [(4,⟨[],[]⟩),(5,⟨[(21,.bool)],[]⟩)] [.agg [.int .i64 a,.str b,.str c,.str d,.slice e f g,.slice i j k,.slice l m n],.l (.str o),.l (.ptr p),.l (.ptr q)] h
variable [DB]
theorem SSt.bool {w w':World}{ob:Nat}{v:Value}(hB:Blk w ob 4 [v])(hDB:DB.B<=ob)(hx:Ext (fun b=>b=ob) w w'):SSt (fun b=>b=ob) w w':=by
 refine ⟨hx,fun T T' a v' ht ho ha=>?_,fun T hT b cs fr hb=>?_⟩
 ·by_cases he:a.block=ob
  ·obtain ⟨cs,fr,h1,-⟩:=ha;rw [he,show objAt w ob=_ from hB] at h1;simp only [Option.some.injEq,Obj.cells.injEq] at h1;obtain ⟨-, rfl,-⟩:=h1;rcases ho with rfl|ho
   ·exact absurd ht (by decide)
   ·omega
  ·exact hx.at he ha
 ·refine hx.old b _ (fun e=>?_) hb;have e:b=ob:=e;subst e;rw [show objAt w b=_ from hB] at hb;simp only [Option.some.injEq,Obj.cells.injEq] at hb;obtain ⟨-, rfl,-⟩:=hb;exact absurd hT (by decide)
abbrev compK (k:BA):Prop:=k=a_V∨k=b_i∨k=d_n
def bad1 (types:List Def)(k:Int)(n:BA)(m:Nat)(u:BA):Prop:=k=0/\(b_K types u n).2=true/\¬ (compK (findD types (a_n (b_K types u n).1.t)).1.kind↔0<m)
def badLf (types:List Def)(x:Sel × BA):Prop:=match x.1 with
 | .mk k _ n _ _ _ kids=>bad1 types k n kids.length x.2∨(k=0/\n=bTn/\0<kids.length)
section
variable {k:Nat} {A4:OA} {L4 C4:Nat} {A:OA} {L C:Nat} {A3:OA} {L3 C3:Nat} {types:List Def}
def PLf (k:Nat)(A4:OA)(L4 C4:Nat)(A:OA)(L C:Nat)(A3:OA)(L3 C3:Nat)(types:List Def)(wb ob:Nat)(l:List (Sel × BA))(w:World):Prop:=
 Blk w wb 33 [.pointer (some (adr k))]/\Blk w k 79 [.slice A4 L4 C4,.slice A L C,.slice A3 L3 C3]/\RDefs w A4 L4 C4 types/\∃ b:Bool,Blk w ob 4 [.bool b]/\(b=true↔∃ x∈l,badLf types x)
theorem o_Y {wb ob:Nat}(hDB:DB.B<=ob)(h1:wb≠ob)(h2:k≠ob):Clo 52 [.pointer (some (adr wb)),.pointer (some (adr ob))] (fun b=>b=ob) (PLf k A4 L4 C4 A L C A3 L3 C3 types wb ob):=by
 refine ⟨⟨_,Tryz.func52,by kernel_rfl⟩,fun l w w' ⟨p1,p2,p3,b,p4,p5⟩ hx=>⟨p1.ext hx id,p2.ext hx id,p3.keep hx.keep,b,p4.ext hx id,p5⟩,?_⟩;rintro l w ⟨k',al,n,on,args,dirs,kids⟩ u cs ⟨p1,p2,p3,b0,p4,p5⟩ hv hsm hok hu -;obtain ⟨a1,l1,c1,a2,l2,c2,a3,l3,c3,rfl,hv1,hv2,hv3⟩:=c_w.1 hv;have hl3:=hv3.len.1;have hn:n.size<=4194304:=hsm (.string n) (by simp);have x11:EF w (w.alloc (.cells #[.int .i64 k',.string al,.string n,.string on,.slice a1 l1 c1,.slice a2 l2 c2,.slice a3 l3 c3] 67)):=(Ext.refl w).alloc _;refine e_5 k' al n on a1 l1 c1 a2 l2 c2 a3 l3 c3 u (adr wb) (adr ob) w _ ⟨trivial,some (adr k),((p1.ext x11 id).at (j:=0) rfl).cell,?_⟩;refine (e_p (types:=types) hu hn (p2.ext x11 id) (p3.keep x11.keep)).mono ?_;rintro _ w14 ⟨cs14,rfl,⟨f0,fl0,fc0,f1,fl1,fc1,tn,f2,fl2,fc2,nn,f3,fl3,fc3,rfl,-, -, hty,-⟩,hsm14,x14⟩;refine ⟨_,_,_,_,_,_,_,_,_,_,_,_,_,_,_,_,_,rfl,⟨x14.keepT _,trivial⟩,trivial,trivial,fun K26 hK26=>?_⟩;have x25:=(x11.then x14).alloc (.cells #[.string (b_K types u n).1.doc,.string (b_K types u n).1.name,.slice f0 fl0 fc0,.slice f1 fl1 fc1,.string tn,.slice f2 fl2 fc2,.bool nn,.slice f3 fl3 fc3] 70);have z25:=(Ext.refl (X:=fun _=>False) w14).alloc (.cells #[.string (b_K types u n).1.doc,.string (b_K types u n).1.name,.slice f0 fl0 fc0,.slice f1 fl1 fc1,.string tn,.slice f2 fl2 fc2,.bool nn,.slice f3 fl3 fc3] 70);have set:∀ {w':World} {b v:Bool},SSt (fun b=>b=ob) w w'->Blk w' ob 4 [.bool b]->SSt (fun b=>b=ob) w (w'.setCell (adr ob) (.bool v))/\Blk (w'.setCell (adr ob) (.bool v)) ob 4 [.bool v]:=fun {w' b v} s hb=>
  ⟨s.trans (SSt.bool hb hDB (Ext.setCell (X:=fun b=>b=ob) (Ext.refl _) (a:=⟨ob,0,none⟩) (.inl rfl) _)),hb.set 0 _⟩
 have off:∀ {w':World} {b:Bool},Blk w' ob 4 [.bool b]->∃ (cs:Array Value) (T:TypeId),objAt w' ob=some (.cells cs T (0,0))/\(none:Option Nat)=none/\0+1<=cs.size/\(Nat.beq 67 T||(Nat.beq 70 T||false))=false:=fun {w' b} hb=>hb.off (j:=0) (n:=1) (q:=fun T=>(Nat.beq 67 T||(Nat.beq 70 T||false))) (by simp) rfl;have fin:∀ (w':World) (b:Bool),SSt (fun b=>b=ob) w w'->Blk w' ob 4 [.bool b]->(b=true↔(∃ x∈l,badLf types x)∨badLf types (.mk k' al n on args dirs kids,u))->
   (.returned (.tuple #[]):Ending)=.returned (.tuple #[])/\SSt (fun b=>b=ob) w w'/\PLf k A4 L4 C4 A L C A3 L3 C3 types wb ob (l++[(.mk k' al n on args dirs kids,u)]) w':=fun w' b s hb hi=>
  ⟨rfl,s,p1.ext s.ext h1,p2.ext s.ext h2,p3.keep s.keep,b,hb,hi.trans ⟨fun h=>h.elim (fun ⟨x,hx,hb⟩=>⟨x,by simp [hx],hb⟩) fun h=>⟨_,by simp,h⟩,fun ⟨x,hx,hb⟩=>by
   rcases ma_.1 hx with hx|hx
   ·exact .inl ⟨x,hx,hb⟩
   ·rw [List.mem_singleton.1 hx] at hb;exact .inr hb⟩⟩
 have key26:∀ (w':World) (b:Bool),SSt (fun b=>b=ob) w w'->Blk w' ob 4 [.bool b]->(b=true↔(∃ x∈l,badLf types x)∨bad1 types k' n kids.length u)->K26 w':=by
  intro w' b s hb hi;refine hK26 w' ⟨b,(hb.at (j:=0) rfl).cell,fun h0=>⟨fun hk=>⟨fun he=>⟨off hb,trivial,fin _ _ (set s hb).1 (set s hb).2 ?_⟩,fun he=>⟨off hb,trivial,fin _ _ (set s hb).1 (set s hb).2 ?_⟩⟩,fun hk=>⟨off hb,trivial,fin _ _ (set s hb).1 (set s hb).2 ?_⟩⟩,fun hb1=>⟨off hb,trivial,fin _ _ (set s hb).1 (set s hb).2 ?_⟩⟩
  ·have hnot:¬ ((∃ x∈l,badLf types x)∨bad1 types k' n kids.length u):=fun h=>by rw [hi.2 h] at h0;cases h0
   have hk:k'=0:=by simpa using hk
   have hnn:=a_b.1 he;rw [decide_eq_true_iff];constructor
   ·intro h;exact .inr (.inr ⟨hk,hnn,by omega⟩)
   ·rintro (h|h|⟨-, -, h⟩)
    ·exact (hnot (.inl h)).elim
    ·exact (hnot (.inr h)).elim
    ·omega
  ·have hnot:¬ ((∃ x∈l,badLf types x)∨bad1 types k' n kids.length u):=fun h=>by rw [hi.2 h] at h0;cases h0
   refine ⟨nofun,?_⟩;rintro (h|h|⟨-, h,-⟩)
   ·exact (hnot (.inl h)).elim
   ·exact (hnot (.inr h)).elim
   ·exact absurd h (a_f.1 he)
  ·have hnot:¬ ((∃ x∈l,badLf types x)∨bad1 types k' n kids.length u):=fun h=>by rw [hi.2 h] at h0;cases h0
   have hk:k'≠0:=fun e=>by simp [e] at hk
   refine ⟨nofun,?_⟩;rintro (h|h|⟨h,-⟩)
   ·exact (hnot (.inl h)).elim
   ·exact (hnot (.inr h)).elim
   ·exact absurd h hk
  ·refine ⟨fun _=>(hi.1 hb1).imp id .inl,fun _=>rfl⟩
 intro K33 hK33;have key33:∀ (b:Bool),(b=true↔k'=0/\(b_K types u n).2=true)->K33 b (w14.alloc (.cells #[.string (b_K types u n).1.doc,.string (b_K types u n).1.name,.slice f0 fl0 fc0,.slice f1 fl1 fc1,.string tn,.slice f2 fl2 fc2,.bool nn,.slice f3 fl3 fc3] 70)):=by
  intro b hb;have p25:=p4.ext x25 id;refine hK33 b _ ⟨fun h w36 e36=>?_,fun h=>key26 _ b0 (SSt.of0 x25) p25 (p5.trans ⟨.inl,fun k=>k.elim id fun k=>?_⟩)⟩
  ·obtain ⟨hk0,hG⟩:=hb.1 h;have x36:EF w w36:=by rw [e36];exact x25.drew
   have z36:EF w14 w36:=by rw [e36];exact z25.drew
   have p36:=p4.ext x36 id;refine ⟨b0,(p36.at (j:=0) rfl).cell,fun h0=>⟨off p36,trivial,trivial,key26 _ _ (set (SSt.of0 x36) p36).1 (set (SSt.of0 x36) p36).2 ⟨fun _=>.inl (p5.1 h0),fun _=>rfl⟩⟩,fun h0=>?_⟩;refine ⟨some (adr k),((p1.ext x36 id).at (j:=0) rfl).cell,?_⟩;refine (c_8 (hsm14 (.string tn) (by simp)) (hty.keep z36.keep) ((p2.ext x36 id).at (j:=0) rfl) (p3.keep x36.keep)).mono ?_;rintro _ w41 ⟨rfl,x41⟩;refine ⟨_,rfl,⟨x41.keepT _,x41.keepT _,trivial⟩,⟨rfl,trivial⟩,?_⟩;refine (b_5 _ _).mono ?_;rintro _ w44 ⟨b45,rfl,x44,hb45⟩;have x3644:=(x36.then x41).then x44;have p44:=p4.ext x3644 id;refine ⟨b45,rfl,⟨x44.keepT _,x44.keepT _,trivial⟩,⟨rfl,trivial⟩,off p44,trivial,trivial,key26 _ _ (set (SSt.of0 x3644) p44).1 (set (SSt.of0 x3644) p44).2 ?_⟩;have hnot:¬ ∃ x∈l,badLf types x:=fun h=>by rw [p5.2 h] at h0;cases h0
   have hm:decide ((l3:Int)>0)=true↔0<kids.length:=by rw [decide_eq_true_iff];omega
   have hcmp:(!(b45==decide ((l3:Int)>0)))=true↔¬ (compK (findD types (a_n (b_K types u n).1.t)).1.kind↔0<kids.length):=by
    have hb45':b45=true↔compK (findD types (a_n (b_K types u n).1.t)).1.kind:=hb45;rw [<- hb45',<- hm];cases b45<;>cases decide ((l3:Int)>0)<;>simp
   rw [hcmp];exact ⟨fun h=>.inr ⟨hk0,hG,h⟩,fun h=>h.elim (fun h=>(hnot h).elim) fun h=>h.2.2⟩
  ·have:b=true:=hb.2 ⟨k.1,k.2.1⟩;rw [this] at h;cases h
 exact ⟨fun h=>key33 _ ⟨fun k=>⟨by simpa using h,k⟩,fun k=>k.2⟩,fun h=>key33 false ⟨nofun,fun k=>by simp [k.1] at h⟩⟩
theorem f_W {roots:List RootD}{a:OA}{l c:Nat}{a':OA}{l' c':Nat}{ops:List OpD}{frags:List Frag}{w:World}(hDB:DB.B<=w.heap.size)(hB:Blk w k 79 [.slice A4 L4 C4,.slice A L C,.slice A3 L3 C3])(hT:RDefs w A4 L4 C4 types)(hR:b_w w A L C roots)(hl:ROps w a l c ops)(hl':a_X w a' l' c' frags)(ok1:∀ x∈ops,okOp x)(ok2:∀ x∈frags,b_j x):
  CP 16 #[.pointer (some (adr k)),.agg #[.slice a l c,.slice a' l' c']] w (RetB w fun b=>b=true↔∃ x∈atAll types roots ops frags,badLf types x):=by
 have x4:EF w (w.alloc (.cells #[.pointer (some (adr k))] 33)):=(Ext.refl w).alloc _;have B4:Blk (w.alloc (.cells #[.pointer (some (adr k))] 33)) w.heap.size 33 [.pointer (some (adr k))]:=Blk.made w 33 [.pointer (some (adr k))];refine g_x (some (adr k)) a l c a' l' c' w _ ⟨trivial,?_⟩;generalize w.alloc (.cells #[.pointer (some (adr k))] 33)=w4 at *;have x5:EF w4 (w4.alloc (.cells #[.slice a l c,.slice a' l' c'] 30)):=(Ext.refl w4).alloc _;refine ⟨trivial,?_⟩;show True/\_;generalize w4.alloc (.cells #[.slice a l c,.slice a' l' c'] 30)=w5 at *;have B6:Blk (w5.alloc (.cells #[.bool false] 4)) w5.heap.size 4 [.bool false]:=Blk.made w5 4 [.bool false];have x6:EF w5 (w5.alloc (.cells #[.bool false] 4)):=(Ext.refl w5).alloc _;refine ⟨trivial,?_⟩;show (∃ _,_)/\_;generalize w5.alloc (.cells #[.bool false] 4)=w6 at *;refine ⟨B6.off (j:=0) (n:=1) (q:=fun T=>(Nat.beq 30 T||false)) (by simp) rfl,trivial,?_⟩;have B7:Blk (w6.setCell (adr w5.heap.size) (.bool false)) w5.heap.size 4 [.bool false]:=B6.set 0 (.bool false);have x7:EF w5 (w6.setCell (adr w5.heap.size) (.bool false)):=Ext.setCell x6 (a:=⟨w5.heap.size,0,none⟩) (.inr (Nat.le_refl _)) _;generalize w6.setCell (adr w5.heap.size) (.bool false)=w7 at *;have y7:=(x4.then x5).then x7;have hz4:=B4.lt;have hz5:=x5.size;have hk:=hB.lt;have hx5:=x4.size;have B47:Blk w7 w.heap.size 33 [.pointer (some (adr k))]:=(B4.ext x5 id).ext x7 id;refine ⟨some (adr k),(B47.at (j:=0) rfl).cell,?_⟩;refine (j_4 (X:=fun b=>b=w5.heap.size) (P:=PLf k A4 L4 C4 A L C A3 L3 C3 types w.heap.size w5.heap.size) (by show ¬ k=w5.heap.size;omega) (o_Y (by omega) (by omega) (by omega)) (hB.ext y7 id) (hT.keep y7.keep) (hR.keep y7.keep) (hl.keep y7.keep) (hl'.keep y7.keep) ok1 ok2 ⟨B47,hB.ext y7 id,hT.keep y7.keep,false,B7,by simp⟩).mono ?_;rintro _ w10 ⟨rfl,s10,-, -, -, b,B10,hb⟩;refine ⟨rfl,⟨s10.kt _ (by decide),trivial⟩,b,(B10.at (j:=0) rfl).cell,b,rfl,y7.trans s10.ext fun k' hk' e=>?_,hb⟩;have e:k'=w5.heap.size:=e;omega
end
end Go.VC
namespace Go.VC
open Go Go.Proofs
set_option maxRecDepth 100000
theorem q_s (a:OA)(b:BA)(w:World)(R:EW)(h:
 True/\(let c:=w.alloc (.cells #[(T9 (⟨#[]⟩:BA)),(T9 (⟨#[]⟩:BA)),S9 none 0 0,S9 none 0 0,.bool false] 105);
 ∀ d,d=c.drew->Pt a fun e=>Ll d (e.add 2) fun f g i=>CP 58 #[] d (fun j k=>∃ l m n,∃ o p q,∃ r s t,∃ u v x,∃ y z A,j=R9 (.agg #[S9 l m n,S9 o p q,S9 r s t,S9 u v x,S9 y z A])/\(KeepT 105 d k/\True)/\((k.cell? (e.add 2)=d.cell? (e.add 2))/\True)/\∃ B C D,∃ E,(Go.builtin .append #[23,23] 23 #[false,false] #[S9 r s t,S9 f g i]).run Tryz.prog k=.ok (.value (S9 B C D)) E/\(KeepT 105 k E/\True)/\True/\∃ (F:Int->BA->BA->OA->Nat->Nat->OA->Nat->Nat->Bool->World->Prop) (G:Int->BA->BA->OA->Nat->Nat->OA->Nat->Nat->Bool->World->Nat),F 0 (⟨#[]⟩:BA) (⟨#[]⟩:BA) none 0 0 none 0 0 false E/\
 (∀ H:Int,∀ I:BA,∀ J:BA,∀ (K:OA) (L M:Nat),∀ (N:OA) (O P:Nat),∀ Q:Bool,∀ S:World,F H I J K L M N O P Q S->
 (Br (decide (H<(C:Int))) (Ix B H C fun U=>L_ssllb S (U.add (H.toNat*5)) fun V W X Y Z aa ab ac ad=>True/\True/\(let af:=S.alloc (.cells #[T9 V,T9 W,S9 X Y Z,S9 aa ab ac,.bool ad] 105);
 (Br (W.toList==b.toList) (True/\(let ag:=setB af (w.heap.size) [T9 V,T9 W,S9 X Y Z,S9 aa ab ac,.bool ad] 105;
 R (R9 (.tuple #[(.agg #[T9 V,T9 W,S9 X Y Z,S9 aa ab ac,.bool ad]),.bool true])) ag)) ((F (wr (H+1)) I J K L M N O P Q af/\G (wr (H+1)) I J K L M N O P Q af<G H I J K L M N O P Q S))))) (True/\True/\(let ah:=setB S (w.heap.size) [(T9 (⟨#[]⟩:BA)),(T9 (⟨#[]⟩:BA)),S9 none 0 0,S9 none 0 0,.bool false] 105;
 R (R9 (.tuple #[(.agg #[(T9 (⟨#[]⟩:BA)),(T9 (⟨#[]⟩:BA)),S9 none 0 0,S9 none 0 0,.bool false]),.bool false])) ah))))))):CP 67 #[P9 a,T9 b] w R:=
 vcq Tryz.func67 [4,7] [(6,⟨[(16,.int .i64)],[(0,[.str,.str,.slice,.slice,.bool])]⟩)] [.l (.optr a),.l (.str b)] h
set_option maxRecDepth 100000
theorem q_1 (a:OA)(b c:Nat)(d:OA)(e f:Nat)(w:World)(R:EW)(h:
 True/\(let g:=w.alloc (.cells #[S9 a b c,S9 d e f] 30);
 ∃ (i:OA->Nat->Nat->Int->World->Prop) (j:OA->Nat->Nat->Int->World->Nat),i none 0 0 0 g/\
 (∀ (k:OA) (l m:Nat),∀ n:Int,∀ o:World,i k l m n o->
 (Br (decide (n<(b:Int))) (Ix a n b fun p=>L_sslll o (p.add (n.toNat*5)) fun q r s t u v x y z A B=>True/\True/\(let D:=o.alloc (.cells #[T9 q,T9 r,S9 s t u,S9 v x y,S9 z A B] 51);
 ∀ E,E=D.drew->Cs 119 #[T9 q] E (fun F G=>(KeepT 30 E G/\KeepT 51 E G/\True)/\((1=1)/\True)/\True/\True/\(let H:=G.alloc (.cells #[S9 v x y,T9 F] 101);
 True/\∃ I J K,∃ L,(Go.builtin .append #[98,98] 98 #[false,false] #[S9 k l m,(S9 (some (adr G.heap.size)) 1 1)]).run Tryz.prog H=.ok (.value (S9 I J K)) L/\(KeepT 30 H L/\KeepT 51 H L/\True)/\True/\True/\∃ (M:OA->Nat->Nat->Int->World->Prop) (N:OA->Nat->Nat->Int->World->Nat),M I J K 0 L/\
 (∀ (O:OA) (P Q:Nat),∀ S:Int,∀ U:World,M O P Q S U->
 (Br (decide (S<(t:Int))) (Ix s S t fun V=>Ls U (V.add (S.toNat*6)) fun W=>Ls U ((V.add (S.toNat*6)).add 1) fun X=>Ll U ((V.add (S.toNat*6)).add 2) fun Y Z aa=>Lb U ((V.add (S.toNat*6)).add 3) fun ab=>Ll U ((V.add (S.toNat*6)).add 4) fun ac ad ae=>Ll U ((V.add (S.toNat*6)).add 5) fun af ag ah=>True/\True/\(let aj:=U.alloc (.cells #[T9 W,T9 X,S9 Y Z aa,.bool ab,S9 ac ad ae,S9 af ag ah] 59);
 True/\True/\(let ak:=aj.alloc (.cells #[S9 af ag ah,(T9 (⟨#[86,65,82,73,65,66,76,69,95,68,69,70,73,78,73,84,73,79,78]⟩:BA))] 101);
 ∃ al am an,∃ ao,(Go.builtin .append #[98,98] 98 #[false,false] #[S9 O P Q,(S9 (some (adr aj.heap.size)) 1 1)]).run Tryz.prog ak=.ok (.value (S9 al am an)) ao/\(KeepT 30 ak ao/\KeepT 51 ak ao/\KeepT 59 ak ao/\True)/\(M al am an (wr (S+1)) ao/\N al am an (wr (S+1)) ao<N O P Q S U)))) (Cl 120 #[S9 z A B] U (fun ap aq ar au=>(KeepT 30 U au/\KeepT 51 U au/\True)/\∃ av ax ay,∃ az,(Go.builtin .append #[98,98] 98 #[false,false] #[S9 O P Q,S9 ap aq ar]).run Tryz.prog au=.ok (.value (S9 av ax ay)) az/\(KeepT 30 au az/\KeepT 51 au az/\True)/\(i av ax ay (wr (n+1)) az/\j av ax ay (wr (n+1)) az<j k l m n o))))))))) (∃ (aA:OA->Nat->Nat->Int->World->Prop) (aB:OA->Nat->Nat->Int->World->Nat),aA k l m 0 o/\
 (∀ (aC:OA) (aD aE:Nat),∀ aF:Int,∀ aG:World,aA aC aD aE aF aG->
 (Br (decide (aF<(e:Int))) (Ix d aF e fun aH=>L_ssll aG (aH.add (aF.toNat*4)) fun aI aJ aK aL aM aN aO aP=>True/\True/\(let aS:=aG.alloc (.cells #[T9 aI,T9 aJ,S9 aK aL aM,S9 aN aO aP] 63);
 True/\True/\(let aU:=aS.alloc (.cells #[S9 aK aL aM,(T9 (⟨#[70,82,65,71,77,69,78,84,95,68,69,70,73,78,73,84,73,79,78]⟩:BA))] 101);
 ∃ aV aW aX,∃ aY,(Go.builtin .append #[98,98] 98 #[false,false] #[S9 aC aD aE,(S9 (some (adr aS.heap.size)) 1 1)]).run Tryz.prog aU=.ok (.value (S9 aV aW aX)) aY/\(KeepT 30 aU aY/\KeepT 63 aU aY/\True)/\Cl 120 #[S9 aN aO aP] aY (fun aZ ba bb bc=>(KeepT 30 aY bc/\KeepT 63 aY bc/\True)/\∃ bd be bf,∃ bg,(Go.builtin .append #[98,98] 98 #[false,false] #[S9 aV aW aX,S9 aZ ba bb]).run Tryz.prog bc=.ok (.value (S9 bd be bf)) bg/\(KeepT 30 bc bg/\KeepT 63 bc bg/\True)/\(aA bd be bf (wr (aF+1)) bg/\aB bd be bf (wr (aF+1)) bg<aB aC aD aE aF aG))))) (R (R9 (S9 aC aD aE)) aG)))))))):CP 66 #[(.agg #[S9 a b c,S9 d e f])] w R:=
 vcq Tryz.func66 [1,5,7,9] [(8,⟨[(3,.slice),(13,.int .i64)],[]⟩),(25,⟨[(3,.slice),(29,.int .i64)],[]⟩),(44,⟨[(3,.slice),(49,.int .i64)],[]⟩)] [.agg [.slice a b c,.slice d e f]] h
theorem q_J (a:OA)(b c:Nat)(w:World)(R:EW)(h:
 ∃ (d:OA->Nat->Nat->Int->World->Prop) (e:OA->Nat->Nat->Int->World->Nat),d none 0 0 0 w/\
 (∀ (f:OA) (g i:Nat),∀ j:Int,∀ k:World,d f g i j k->
 (Br (decide (j<(b:Int))) (Ix a j b fun l=>L_issslll k (l.add (j.toNat*7)) fun m n o p q r s t u v x y z=>True/\True/\(let B:=k.alloc (.cells #[N9 m,T9 n,T9 o,T9 p,S9 q r s,S9 t u v,S9 x y z] 67);
 ∀ C,C=B.drew->True/\(let D:=C.alloc (.cells #[(T9 (⟨#[70,73,69,76,68]⟩:BA)),(T9 (⟨#[70,82,65,71,77,69,78,84,95,83,80,82,69,65,68]⟩:BA)),(T9 (⟨#[73,78,76,73,78,69,95,70,82,65,71,77,69,78,84]⟩:BA))] 9);
 ((1=1)/\(1=1)/\True)/\Ix (some (adr C.heap.size)) m 3 fun E=>Ls D (E.add (m.toNat*1)) fun F=>True/\True/\(let G:=D.alloc (.cells #[S9 t u v,T9 F] 101);
 True/\∃ H I J,∃ K,(Go.builtin .append #[98,98] 98 #[false,false] #[S9 f g i,(S9 (some (adr D.heap.size)) 1 1)]).run Tryz.prog G=.ok (.value (S9 H I J)) K/\(KeepT 67 G K/\True)/\True/\True/\Cl 120 #[S9 x y z] K (fun L M N O=>(KeepT 67 K O/\True)/\∃ P Q S,∃ U,(Go.builtin .append #[98,98] 98 #[false,false] #[S9 H I J,S9 L M N]).run Tryz.prog O=.ok (.value (S9 P Q S)) U/\(KeepT 67 O U/\True)/\(d P Q S (wr (j+1)) U/\e P Q S (wr (j+1)) U<e f g i j k)))))) (R (R9 (S9 f g i)) k)))):CP 120 #[S9 a b c] w R:=
 vcq Tryz.func120 [5] [(8,⟨[(3,.slice),(8,.int .i64)],[]⟩)] [.l (.slice a b c)] h
theorem q_C (a:BA)(w:World)(R:EW)(h:
 (Br (a.toList==(⟨#[109,117,116,97,116,105,111,110]⟩:BA).toList) (R (R9 (T9 (⟨#[77,85,84,65,84,73,79,78]⟩:BA))) w) ((Br (a.toList==(⟨#[115,117,98,115,99,114,105,112,116,105,111,110]⟩:BA).toList) (R (R9 (T9 (⟨#[83,85,66,83,67,82,73,80,84,73,79,78]⟩:BA))) w) (R (R9 (T9 (⟨#[81,85,69,82,89]⟩:BA))) w))))):CP 119 #[T9 a] w R:=
 vcq Tryz.func119 [] [] [.l (.str a)] h
variable [DB]
def AppT (t T n:Nat):Prop:=∃ (i:TypeInfo) (z:Value) (bytes:Nat),Tryz.prog.underlying t=some (.slice T)/\Tryz.prog.info? T=some i/\i.zero=some z/\i.size=n/\i.bytes=bytes/\z.cells.size=n/\0<n/\bytes<=4096
def Acc {α:Type}(wb w:World)(T n:Nat)(R:α->List Value->Prop)(A:OA)(L C:Nat)(xs:List α):Prop:=
 EF wb w/\L=xs.length/\∃ cells,Own wb.heap.size w T n A L C cells/\Flat n R xs cells
section
variable {α:Type} {wb w w':World} {t T n:Nat} {R:α->List Value->Prop} {A:OA} {L C:Nat} {xs ys:List α} {x:α}
theorem Acc.nil (h:EF wb w):Acc wb w T n R none 0 0 ([]:List α):=⟨h,rfl,[],Own.nil ..,.nil⟩
theorem Acc.step (h:Acc wb w T n R A L C xs)(hx:EF w w'):Acc wb w' T n R A L C xs:=by
 obtain ⟨h1,h2,cells,h3,h4⟩:=h;exact ⟨h1.then hx,h2,cells,h3.keep hx fun _ _=>id,h4⟩
theorem Acc.sl (h:Acc wb w T n R A L C xs)(hn:0<n)(hl:xs.length<=4194304):SlL w T n R A L C xs:=by
 obtain ⟨h1,h2,cells,h3,h4⟩:=h;exact h3.sl h4 hn (by omega)
theorem Acc.one (ha:AppT t T n)(hlen:∀ x cs,R x cs->cs.length=n)(h:Acc wb w T n R A L C xs){cs:List Value}(hr:R x cs)(hsm:∀ v∈cs,a_v v)(h2:xs.length<16777216):
  ∃ (A':OA) (C':Nat) (w':World),(Go.builtin .append #[t,t] t #[false,false] #[.slice A L C,.slice (some (adr w.heap.size)) 1 1]).run Tryz.prog (w.alloc (.cells cs.toArray T))=.ok (.value (.slice A' (L+1) C')) w'/\
   Acc wb w' T n R A' (L+1) C' (xs++[x])/\∀ T',T'≠T->KeepT T' (w.alloc (.cells cs.toArray T)) w':=by
 obtain ⟨i,z,bytes,a1,a2,a3,a4,a5,a6,a7,a8⟩:=ha;obtain ⟨h1,hL,cells,h3,h4⟩:=h;obtain ⟨A',C',w',r,⟨cells',o',f'⟩,hx,hk⟩:=d_y t T i z n bytes a1 a2 a3 a4 a5 a6 a7 a8 h3 h1.size h4 (hlen _ _ hr) hsm hr hlen (by omega) t #[false,false];refine ⟨A',C',w',r,⟨h1.trans hx fun b hb hbl=>?_,by rw [la_,hL];rfl,cells',o',f'⟩,hk⟩;have:=(h3.base b hbl).1;omega
theorem Acc.more (ha:AppT t T n)(hlen:∀ x cs,R x cs->cs.length=n)(h:Acc wb w T n R A L C xs){a:OA}{l c:Nat}(hr:SlL w T n R a l c ys)(h2:xs.length+ys.length<=16777216):
  ∃ (A':OA) (C':Nat) (w':World),(Go.builtin .append #[t,t] t #[false,false] #[.slice A L C,.slice a l c]).run Tryz.prog w=.ok (.value (.slice A' (L+l) C')) w'/\
   Acc wb w' T n R A' (L+l) C' (xs++ys)/\∀ T',T'≠T->KeepT T' w w':=by
 obtain ⟨i,z,bytes,a1,a2,a3,a4,a5,a6,a7,a8⟩:=ha;obtain ⟨h1,hL,cells,h3,h4⟩:=h;have hl:=hr.len.1;obtain ⟨A',C',w',r,⟨cells',o',f'⟩,hx,-⟩:=c_7 t T i z n bytes a1 a2 a3 a4 a5 a6 a7 a8 h3 h1.size h4 hr hlen (by omega) t #[false,false];refine ⟨A',C',w',r,⟨h1.trans hx fun b hb hbl=>?_,by rw [la_,hL,hl],cells',o',f'⟩,fun T' hT=>h3.keepT hx hT⟩;have:=(h3.base b hbl).1;omega
theorem Acc.get (h:Acc wb w T n R A L C xs){i:Int}(h0:0<=i)(hi:i<(L:Int)):∃ (p:Addr) (x:α) (cs:List Value),A=some p/\xs[i.toNat]? =some x/\R x cs/\∀ k u,cs[k]? =some u->At w T ((p.add (i.toNat*n)).add k) u:=by
 obtain ⟨h1,h2,cells,h3,h4⟩:=h;obtain ⟨x,hx⟩:∃ x,xs[i.toNat]? =some x:=⟨_,List.getElem?_eq_getElem (by omega)⟩;obtain ⟨cs,g1,g2,g3,g4⟩:=h4.get _ x hx;have hp:∃ p,A=some p:=by
  obtain ⟨-, h|⟨g,cap,cur,e1,-⟩⟩:=h3
  ·obtain ⟨h,-⟩:=h;simp only [Value.slice.injEq] at h;omega
  ·simp only [Value.slice.injEq] at e1;exact ⟨_,e1.1⟩
 obtain ⟨p,rfl⟩:=hp;refine ⟨p,x,cs,rfl,hx,g3,fun k u hu=>?_⟩;obtain ⟨p',hp',ha⟩:=h3.at (g4 k u hu);obtain rfl:p=p':=Option.some.inj hp';rw [add_add'];exact ha
theorem KeepT.at {w w':World}{T:TypeId}(h:KeepT T w w'){a:Addr}{v:Value}(ha:At w T a v):At w' T a v:=by
 obtain ⟨cs,fr,h1,h2⟩:=ha;exact ⟨cs,fr,h _ _ _ h1,h2⟩
theorem KeepT.then {w w' w'':World}{T:TypeId}(h:KeepT T w w')(h':KeepT T w' w''):KeepT T w w'':=fun b c fr hb=>h' b c fr (h b c fr hb)
end
def RUse (w0:World)(x:List Dir × BA)(cs:List Value):Prop:=∃ (a:OA) (l c:Nat),cs=[.slice a l c,.string x.2]/\RDirs w0 a l c x.1
theorem appU:AppT 98 101 2:=⟨Tryz.t101,_,_,by kernel_rfl,by kernel_rfl,rfl,by kernel_rfl,rfl,by kernel_rfl,by omega,by decide⟩
theorem RUse.len {w0:World}(x:List Dir × BA)(cs:List Value):RUse w0 x cs->cs.length=2:=fun ⟨_,_,_,h,_⟩=>by rw [h];rfl
def p_W (k:Int):BA:=if k=0 then l_1 else if k=1 then h_9 else j_0
def spLoc (k:BA):BA:=if k=bMut then bMLoc else if k=bSub then bSLoc else bQLoc
mutual
def usS:Sel->List (List Dir × BA)
 | .mk k _ _ _ _ dirs kids=>(dirs,p_W k)::usL kids
def usL:List Sel->List (List Dir × BA)
 | []=>[]
 | s::l=>usS s++usL l
end
theorem p_3:∀ l:List Sel,usL l=l.flatMap usS
 | []=>rfl
 | s::l=>by simp [usL,p_3 l]
theorem p_N:∀ l:List Sel,(usL l).length=selL l
 | []=>rfl
 | .mk k al n on args dirs kids::l=>by
  simp only [usL,usS,selL,selS,la_,List.length_cons,p_N kids,p_N l];omega
theorem take_snoc' {α:Type}{xs:List α}{i:Int}{x:α}(h0:0<=i)(hx:xs[i.toNat]? =some x):xs.take (i+1).toNat=xs.take i.toNat++[x]:=by
 rw [show (i+1).toNat=i.toNat+1 by omega,List.take_add_one,hx];rfl
theorem q_p {α β:Type}(f:α->List β){xs:List α}{i:Int}{x:α}(h0:0<=i)(hx:xs[i.toNat]? =some x):(xs.take (i+1).toNat).flatMap f=(xs.take i.toNat).flatMap f++f x:=by
 rw [take_snoc' h0 hx,List.flatMap_append];simp
theorem q_q {α β:Type}(f:α->List β)(xs:List α)(j:Nat):((xs.take j).flatMap f).length<=(xs.flatMap f).length:=by
 have:xs.flatMap f=(xs.take j).flatMap f++(xs.drop j).flatMap f:=by rw [<- List.flatMap_append,List.take_append_drop]
 rw [this,la_];omega
theorem q_E {s:Sel}:∀ {l:List Sel},s∈l->selS s<=selL l
 | t::l,h=>by
  simp only [selL];rcases mc_.1 h with rfl|h
  ·omega
  ·have:=q_E h;omega
abbrev USof (w0:World)(xs:List Sel):Prop:=∀ (a:OA) (l c:Nat) (w:World),EF w0 w->RSels w0 a l c xs->a_z xs->selL xs<=2097152->
 CP 120 #[.slice a l c] w fun e w'=>∃ A L C,e=.returned (.slice A L C)/\Acc w w' 101 2 (RUse w0) A L C (usL xs)
theorem p_Y {a:OA}{l c:Nat}{s:BA}(h:s.size<=4194304):∀ v∈[Value.slice a l c,.string s],a_v v:=fun v hv=>by
 simp only [mc_,nn_,or_false] at hv;rcases hv with rfl|rfl
 ·rfl
 ·exact h
theorem q_n {w0:World}{xs:List Sel}(IH:∀ k al n on args dirs kids,Sel.mk k al n on args dirs kids∈xs->USof w0 kids):USof w0 xs:=by
 intro a l c w hw0 hl hok hfew;obtain ⟨e1,e3⟩:=hl.len;rw [<- p_N,p_3] at hfew;rw [p_3];refine q_J a l c w _ ⟨fun A L C i w1=>0<=i/\i<=l/\Acc w w1 101 2 (RUse w0) A L C ((xs.take i.toNat).flatMap usS),fun _ _ _ i _=>((l:Int)-i).toNat,⟨by omega,by omega,Acc.nil (Ext.refl w)⟩,?_⟩;rintro A L C i w1 ⟨h0,hi,ac⟩;refine ⟨fun hlt=>?_,fun hge=>?_⟩
 ·have hlt:=odt hlt;have x1:=hw0.then ac.1;obtain ⟨p,x,hp,hxs,cs,hc,hv⟩:=hl.get h0 hlt;have hmem:=mg_ hxs;have hokx:=b_9.1 hok x hmem;have hsn:=q_p usS h0 hxs;have hle:=q_q usS xs (i+1).toNat;have hsel:=q_E hmem;rw [<- p_N xs,p_3] at hsel;obtain ⟨k,al,n,on,args,dirs,kids⟩:=x;have IHk:=IH k al n on args dirs kids hmem;obtain ⟨a1,l1,c1,a2,l2,c2,a3,l3,c3,rfl,hv1,hv2,hv3⟩:=c_w.1 hv;obtain ⟨⟨_,_,hc0⟩,hs0,⟨_,_,hc1⟩,hs1,⟨_,_,hc2⟩,hs2,⟨_,_,hc3⟩,hs3,⟨_,_,hc4⟩,hs4,⟨_,_,hc5⟩,hs5,⟨_,_,hc6⟩,-⟩:=hc;simp only [okSel] at hokx;obtain ⟨hk,-, -, hkids,-⟩:=hokx;simp only [selS] at hsel;rw [hsn,show usS (.mk k al n on args dirs kids)=(dirs,p_W k)::usL kids by simp only [usS],la_,List.length_cons,p_N] at hle;refine ⟨p,hp,⟨h0,hlt⟩,_,x1.cell hc0 id,_,x1.cell hc1 id,_,x1.cell hc2 id,_,x1.cell hc3 id,_,_,_,x1.cell hc4 id,_,_,_,x1.cell hc5 id,_,_,_,x1.cell hc6 id,trivial,trivial,fun w17 e17=>⟨trivial,?_⟩⟩;have hx17:EF w1 w17:=by rw [e17];exact ((Ext.refl w1).alloc _).drew
  have B18:=Blk.made w17 9 [.string l_1,.string h_9,.string j_0];have hx18:EF w17 (w17.alloc (.cells #[.string l_1,.string h_9,.string j_0] 9)):=(Ext.refl w17).alloc _;have hs:(p_W k).size<=4194304:=by rcases hk with rfl|rfl|rfl<;>exact Nat.le_of_ble_eq_true rfl
  have hsc:(w17.alloc (.cells #[.string l_1,.string h_9,.string j_0] 9)).cell? ((adr w17.heap.size).add (k.toNat*1))=some (.string (p_W k)):=by
   rcases hk with rfl|rfl|rfl
   ·exact (B18.at (j:=0) rfl).cell
   ·exact (B18.at (j:=1) rfl).cell
   ·exact (B18.at (j:=2) rfl).cell
  refine ⟨⟨rfl,rfl,trivial⟩,_,rfl,⟨by omega,by omega⟩,p_W k,hsc,trivial,trivial,trivial,?_⟩;obtain ⟨A2,C2,w23,r23,ac23,k23⟩:=((ac.step hx17).step hx18).one appU RUse.len (x:=(dirs,p_W k)) (cs:=[.slice a2 l2 c2,.string (p_W k)]) ⟨a2,l2,c2,rfl,hv2⟩ (p_Y hs) (by omega);refine ⟨A2,L+1,C2,w23,r23,⟨k23 _ (by decide),trivial⟩,trivial,trivial,?_⟩;refine (IHk a3 l3 c3 w23 (hw0.then ac23.1) hv3 hkids (by omega)).mono ?_;rintro _ w25 ⟨A3,L3,C3,rfl,ac25⟩;have hlk:=p_N kids;obtain ⟨A4,C4,w28,r28,ac28,k28⟩:=(ac23.step ac25.1).more appU RUse.len (ac25.sl (by omega) (by omega)) (by rw [la_,List.length_cons,List.length_nil];omega);refine ⟨A3,L3,C3,rfl,⟨ac25.1.keepT _,trivial⟩,A4,L+1+L3,C4,w28,r28,⟨k28 _ (by decide),trivial⟩,?_⟩;rw [a_a h0 (by omega)];refine next h0 hlt ?_
  rw [hsn,show usS (.mk k al n on args dirs kids)=[(dirs,p_W k)]++usL kids by simp only [usS];rfl,<- List.append_assoc];exact ac28
 ·have hle:=odf hge;rw [tl_ (by omega)] at ac;exact ⟨A,L,C,rfl,ac⟩
theorem p_1 {w0:World}:∀ (d:Nat) (xs:List Sel),SizeOf.sizeOf xs<d->USof w0 xs
 | 0,_,h=>by omega
 | d+1,xs,h=>q_n fun k al n on args dirs kids hm=>p_1 d kids (by
   have:=List.sizeOf_lt_of_mem hm;simp only [Sel.mk.sizeOf_spec] at this;omega)
theorem q_v (w0:World)(xs:List Sel):USof w0 xs:=p_1 _ xs (Nat.lt_succ_self _)
theorem q_A (s:BA)(w:World):CP 119 #[.string s] w fun e w'=>e=.returned (.string (spLoc s))/\w'=w:=by
 refine q_C s w _ ⟨fun h=>⟨?_,rfl⟩,fun h=>⟨fun h'=>⟨?_,rfl⟩,fun h'=>⟨?_,rfl⟩⟩⟩
 ·rw [spLoc,if_pos (a_b.1 h)]
 ·rw [spLoc,if_neg (a_f.1 h),if_pos (a_b.1 h')]
 ·rw [spLoc,if_neg (a_f.1 h),if_neg (a_f.1 h')]
theorem q_t (s:BA):(spLoc s).size<=4194304:=by
 unfold spLoc;split
 ·exact Nat.le_of_ble_eq_true rfl
 ·split<;>exact Nat.le_of_ble_eq_true rfl
def usO (x:OpD):List (List Dir × BA):=[(x.dirs,spLoc x.kind)]++(x.vars.map fun v=>(v.dirs,d_Y))++usL x.kids
def usF (x:Frag):List (List Dir × BA):=[(x.dirs,d_z)]++usL x.kids
def usesD (ops:List OpD)(frags:List Frag):List (List Dir × BA):=ops.flatMap usO++frags.flatMap usF
theorem q_O {α β:Type}{f:α->List β}{g:α->Nat}:∀ {l:List α},(∀ x∈l,(f x).length<=g x)->(l.flatMap f).length<=(l.map g).sum
 | [],_=>by simp
 | x::l,h=>by
  have h1:=h x (by simp);have h2:=q_O (l:=l) (f:=f) (g:=g) fun y hy=>h y (by simp [hy]);simp only [List.flatMap_cons,la_,List.map_cons,List.sum_cons];omega
theorem q_R (x:OpD):(usO x).length<=opW x:=by
 have h1:=l_h x.kids;have h2:x.vars.length<=varsW x.vars:=f_I fun y _=>by simp only [varW];omega
 simp only [usO,opW,la_,List.length_cons,List.length_nil,List.length_map,p_N];omega
theorem q_Q (x:Frag):(usF x).length<=fragW x:=by
 have h1:=l_h x.kids;simp only [usF,fragW,la_,List.length_cons,List.length_nil,p_N];omega
theorem q_z (ops:List OpD)(frags:List Frag):(usesD ops frags).length<=docW ops frags:=by
 have h1:=q_O (l:=ops) fun x _=>q_R x;have h2:=q_O (l:=frags) fun x _=>q_Q x;simp only [usesD,docW,la_];omega
theorem q_Z {w0 w:World}{a:OA}{l c:Nat}{a':OA}{l' c':Nat}{ops:List OpD}{frags:List Frag}(hw0:EF w0 w)(hl:ROps w0 a l c ops)(hl':a_X w0 a' l' c' frags)(ok1:∀ x∈ops,okOp x)(ok2:∀ x∈frags,b_j x)(hs:docW ops frags<=2097152):
  CP 66 #[.agg #[.slice a l c,.slice a' l' c']] w fun e w'=>∃ A L C,e=.returned (.slice A L C)/\Acc w w' 101 2 (RUse w0) A L C (usesD ops frags):=by
 obtain ⟨e1,e3⟩:=hl.len;obtain ⟨e1',e3'⟩:=hl'.len;have hul:=lt_ (q_z ops frags) hs;have hsel:=lt_ (q_K ops frags) hs;unfold e_O at hsel;have hs1:∀ x∈ops,selL x.kids<=2097152:=fun x hx=>by
  have:=q_e (fun x:OpD=>selL x.kids) hx;omega
 have hs2:∀ x∈frags,selL x.kids<=2097152:=fun x hx=>by
  have:=q_e (fun x:Frag=>selL x.kids) hx;omega
 simp only [usesD,la_] at hul;have hx0:=(Ext.refl (X:=fun _=>False) w).alloc (.cells #[.slice a l c,.slice a' l' c'] 30);refine q_1 a l c a' l' c' w _ ⟨trivial,?_⟩;refine ⟨fun A L C i w1=>0<=i/\i<=l/\Acc w w1 101 2 (RUse w0) A L C ((ops.take i.toNat).flatMap usO),fun _ _ _ i _=>((l:Int)-i).toNat,⟨by omega,by omega,Acc.nil hx0⟩,?_⟩;rintro A L C i w1 ⟨h0,hi,ac⟩;refine ⟨fun hlt=>?_,fun hge=>?_⟩
 ·have hlt:=odt hlt;have x1:=hw0.then ac.1;obtain ⟨p,x,hp,hxs,cs,hc,a1,l1,c1,a2,l2,c2,a3,l3,c3,rfl,hv1,hv2,hv3⟩:=hl.get h0 hlt;obtain ⟨⟨_,_,hc0⟩,hs0,⟨_,_,hc1⟩,hs1',⟨_,_,hc2⟩,hs2',⟨_,_,hc3⟩,hs3,⟨_,_,hc4⟩,-⟩:=hc;have hmem:=mg_ hxs;have hsn:=q_p usO h0 hxs;have hle:=q_q usO ops (i+1).toNat;have hkl:=hs1 x hmem;obtain ⟨d1,d3⟩:=hv1.len;rw [hsn] at hle;simp only [usO,la_,List.length_cons,List.length_nil,List.length_map,p_N] at hle;refine ⟨p,hp,⟨h0,hlt⟩,_,x1.cell hc0 id,_,x1.cell hc1 id,_,_,_,x1.cell hc2 id,_,_,_,x1.cell hc3 id,_,_,_,x1.cell hc4 id,trivial,trivial,fun w17 e17=>?_⟩;have hx17:EF w1 w17:=by rw [e17];exact ((Ext.refl w1).alloc _).drew
  refine (q_A x.kind w17).mono ?_;rintro _ w19 ⟨rfl,rfl⟩;obtain ⟨A2,C2,w23,r23,ac23,k23⟩:=(ac.step hx17).one appU RUse.len (x:=(x.dirs,spLoc x.kind)) (cs:=[.slice a2 l2 c2,.string (spLoc x.kind)]) ⟨a2,l2,c2,rfl,hv2⟩ (p_Y (q_t _)) (by omega);refine ⟨_,rfl,⟨(Ext.refl _).keepT _,(Ext.refl _).keepT _,trivial⟩,⟨rfl,trivial⟩,trivial,trivial,trivial,A2,L+1,C2,w23,r23,⟨k23 _ (by decide),k23 _ (by decide),trivial⟩,trivial,trivial,?_⟩;refine ⟨fun A L C j w2=>0<=j/\j<=l1/\Acc w w2 101 2 (RUse w0) A L C ((ops.take i.toNat).flatMap usO++[(x.dirs,spLoc x.kind)]++(x.vars.take j.toNat).map fun v=>(v.dirs,d_Y)),fun _ _ _ j _=>((l1:Int)-j).toNat,⟨by omega,by omega,by simpa using ac23⟩,?_⟩;rintro A3 L3 C3 j w2 ⟨j0,hj,ac2⟩;refine ⟨fun hjl=>?_,fun hjg=>?_⟩
  ·have hjl:=odt hjl;have x2:=hw0.then ac2.1;obtain ⟨p2,y,hp2,hys,cs2,hc',n,b1,m1,g1,nn,b2,m2,g2,b3,m3,g3,rfl,hw1,hw2,hw3⟩:=hv1.get j0 hjl;obtain ⟨⟨_,_,hd0⟩,hz0,⟨_,_,hd1⟩,hz1,⟨_,_,hd2⟩,hz2,⟨_,_,hd3⟩,hz3,⟨_,_,hd4⟩,hz4,⟨_,_,hd5⟩,-⟩:=hc';have hy37:EF w2 (w2.alloc (.cells #[.string y.name,.string n,.slice b1 m1 g1,.bool nn,.slice b2 m2 g2,.slice b3 m3 g3] 59)):=(Ext.refl w2).alloc _;obtain ⟨A4,C4,w40,r40,ac40,k40⟩:=(ac2.step hy37).one appU RUse.len (x:=(y.dirs,d_Y)) (cs:=[.slice b3 m3 g3,.string d_Y]) ⟨b3,m3,g3,rfl,hw3⟩ (p_Y (by decide)) (by
    simp only [la_,List.length_cons,List.length_nil,List.length_map,List.length_take];omega)
   refine ⟨p2,hp2,⟨j0,hjl⟩,_,x2.cell hd0 id,_,x2.cell hd1 id,_,_,_,x2.cell hd2 id,_,x2.cell hd3 id,_,_,_,x2.cell hd4 id,_,_,_,x2.cell hd5 id,trivial,trivial,trivial,trivial,A4,L3+1,C4,w40,r40,⟨k40 _ (by decide),k40 _ (by decide),k40 _ (by decide),trivial⟩,?_⟩;rw [a_a j0 (by omega)];refine next j0 hjl ?_
   rw [take_snoc' j0 hys,List.map_append,<- List.append_assoc];exact ac40
  ·have hje:=odf hjg;rw [tl_ (l:=x.vars) (by omega)] at ac2;refine (q_v w0 x.kids a3 l3 c3 w2 (hw0.then ac2.1) hv3 (ok1 x hmem).2.2.2 hkl).mono ?_;rintro _ w42 ⟨A5,L5,C5,rfl,ac42⟩;have hlk:=p_N x.kids;obtain ⟨A6,C6,w45,r45,ac45,k45⟩:=(ac2.step ac42.1).more appU RUse.len (ac42.sl (by omega) (by omega)) (by
    simp only [la_,List.length_cons,List.length_nil,List.length_map,p_N];omega)
   refine ⟨A5,L5,C5,rfl,⟨ac42.1.keepT _,ac42.1.keepT _,trivial⟩,A6,L3+L5,C6,w45,r45,⟨k45 _ (by decide),k45 _ (by decide),trivial⟩,?_⟩;rw [a_a h0 (by omega)];refine next h0 hlt ?_
   rw [hsn];simpa only [usO,List.append_assoc] using ac45
 ·have hle:=odf hge;rw [tl_ (by omega)] at ac;refine ⟨fun A L C i w1=>0<=i/\i<=l'/\Acc w w1 101 2 (RUse w0) A L C (ops.flatMap usO++(frags.take i.toNat).flatMap usF),fun _ _ _ i _=>((l':Int)-i).toNat,⟨by omega,by omega,by simpa using ac⟩,?_⟩;clear ac hle hge h0 hi;rintro A L C i w1 ⟨h0,hi,ac⟩;refine ⟨fun hlt=>?_,fun hge=>?_⟩
  ·have hlt:=odt hlt;have x1:=hw0.then ac.1;obtain ⟨p,x,hp,hxs,cs,hc,a2,l2,c2,a3,l3,c3,rfl,hv2,hv3⟩:=hl'.get h0 hlt;obtain ⟨⟨_,_,hc0⟩,hs0,⟨_,_,hc1⟩,hs1',⟨_,_,hc2⟩,hs2',⟨_,_,hc3⟩,-⟩:=hc;have hmem:=mg_ hxs;have hsn:=q_p usF h0 hxs;have hle:=q_q usF frags (i+1).toNat;have hkl:=hs2 x hmem;rw [hsn] at hle;simp only [usF,la_,List.length_cons,List.length_nil,p_N] at hle;have hx57:EF w1 (w1.alloc (.cells #[.string x.name,.string x.on,.slice a2 l2 c2,.slice a3 l3 c3] 63)):=(Ext.refl w1).alloc _;obtain ⟨A2,C2,w60,r60,ac60,k60⟩:=(ac.step hx57).one appU RUse.len (x:=(x.dirs,d_z)) (cs:=[.slice a2 l2 c2,.string d_z]) ⟨a2,l2,c2,rfl,hv2⟩ (p_Y (by decide)) (by
    simp only [la_,usF];omega)
   refine ⟨p,hp,⟨h0,hlt⟩,_,x1.cell hc0 id,_,x1.cell hc1 id,_,_,_,x1.cell hc2 id,_,_,_,x1.cell hc3 id,trivial,trivial,trivial,trivial,A2,L+1,C2,w60,r60,⟨k60 _ (by decide),k60 _ (by decide),trivial⟩,?_⟩;refine (q_v w0 x.kids a3 l3 c3 w60 (hw0.then ac60.1) hv3 (ok2 x hmem).2.1 hkl).mono ?_;rintro _ w62 ⟨A5,L5,C5,rfl,ac62⟩;have hlk:=p_N x.kids;obtain ⟨A6,C6,w65,r65,ac65,k65⟩:=(ac60.step ac62.1).more appU RUse.len (ac62.sl (by omega) (by omega)) (by
    simp only [la_,List.length_cons,List.length_nil,p_N,usF];omega)
   refine ⟨A5,L5,C5,rfl,⟨ac62.1.keepT _,ac62.1.keepT _,trivial⟩,A6,L+1+L5,C6,w65,r65,⟨k65 _ (by decide),k65 _ (by decide),trivial⟩,?_⟩;rw [a_a h0 (by omega)];refine next h0 hlt ?_
   rw [hsn];simpa only [usF,List.append_assoc] using ac65
  ·have hle:=odf hge;rw [tl_ (by omega)] at ac;exact ⟨A,L,C,rfl,ac⟩
theorem Own.le {b2 b:Nat}{w:World}{T n:Nat}{a:OA}{l c:Nat}{xs:List Value}(h:Own b2 w T n a l c xs)(hb:b<=b2):Own b w T n a l c xs:=
 ⟨h.1,h.2.imp id fun ⟨g,cap,cur,e1,e2,e⟩=>⟨g,cap,cur,e1,lt_ hb e2,e⟩⟩
theorem q_F {α:Type}(t T:TypeId)(i:TypeInfo)(z:Value)(n bytes:Nat)(ht:Tryz.prog.underlying t=some (.slice T))(hi:Tryz.prog.info? T=some i)(hz:i.zero=some z)
  (hsize:i.size=n) (hby:i.bytes=bytes) (hzs:z.cells.size=n) (hn:0<n) (h3:bytes<=4096) {base:Nat} {w:World} {A:OA} {l:Nat} {cells:List Value} {R:α->List Value->Prop} {xs ys:List α}
  (hown:Own base w T n A l l cells) (hb:base<=w.heap.size) (h0:0<l) (hf:Flat n R xs cells) {a':OA} {l' c':Nat} (hl:SlL w T n R a' l' c' ys) (hlen:∀ x cs,R x cs->cs.length=n) (h2:l+l'<=16777216) (ty:TypeId) (fs:Array Bool):
  ∃ (A':OA) (C':Nat) (w':World),(Go.builtin .append #[t,t] ty fs #[.slice A l l,.slice a' l' c']).run Tryz.prog w=.ok (.value (.slice A' (l+l') C')) w'/\
   (∃ cells',Own base w' T n A' (l+l') C' cells'/\Flat n R (xs++ys) cells')/\EF w w':=by
 have hown0:=hown;obtain ⟨news,hfn,hnews⟩:=hl.flat hlen;have e:=hl.len.1;obtain ⟨hc,⟨h1,-⟩|⟨g,cap,cur,e1,e2,e3,e4,e5,e6,e7⟩⟩:=hown
 ·simp only [Value.slice.injEq] at h1;omega
 simp only [Value.slice.injEq] at e1;obtain ⟨rfl,-, rfl⟩:=e1;rcases Nat.eq_zero_or_pos l' with h|h
 ·subst h;have hys:ys=[]:=List.length_eq_zero_iff.1 e.symm;subst hys;cases a' with
  | none=>
   exact ⟨_,_,_,d_u t T i ht hi (Nat.le_refl _) ty fs,⟨cells,hown0,by simpa using hf⟩,Ext.refl w⟩
  | some p=>
   have r:=run_append_room_cells (P:=Tryz.prog) w t ty T i ht hi g 0 l l p 0 c' [] (by simp) (by simp) (by simp) (Nat.le_refl _) (fun j hj=>by simp at hj) (fun j hj=>by simp at hj);refine ⟨some ⟨g,0,none⟩,l,w,?_,⟨cells,hown0,by simpa using hf⟩,Ext.refl w⟩;have r':(Builtin.append_ #[t,t] ty #[.slice (some ⟨g,0,none⟩) l l,.slice (some p) 0 c']).run Tryz.prog w=.ok (.slice (some ⟨g,0,none⟩) (l+0) l) w:=r;simp only [Go.builtin,Sem.run_bind,r',Result.andThen_ok,Sem.run_pure]
 ·cases a' with
  | none=>
   cases ys with
   | nil=>simp at e;omega
   | cons y ys=>
    obtain ⟨p,hp,_⟩:=hl.2.2.2 0 y rfl;cases hp
  | some p=>
   obtain ⟨v',w',r,o,gr⟩:=run_append_arg_grows (P:=Tryz.prog) w t ty T i z n bytes ht hi hz hsize hby hzs hn ⟨g,0,none⟩ l l cells hc (fun j u hu=>by
    obtain ⟨q,hq,ha⟩:=Own.at hown0 hu;cases hq;exact ha.cell) p l' c' news (by rw [hfn.len,e]) (fun j u hu=>by
    obtain ⟨p',hp',_,ha⟩:=hnews j u hu;cases hp';exact ha.cell) (by omega) (by simp only [maxLen];omega) (by
     have:(l+l')*bytes<=16777216*4096:=Nat.mul_le_mul h2 h3;omega)
   have hv:∃ A C,v'=.slice A (l+l') C:=by
    obtain ⟨_,h|⟨g,cap,cur,h,_⟩⟩:=o
    ·exact ⟨none,0,by rw [h.1,h.2]⟩
    ·exact ⟨_,_,h⟩
   obtain ⟨A',C',rfl⟩:=hv;refine ⟨A',C',w',?_,⟨_,Own.le o hb,hf.append hfn⟩,Ext.of_grown gr fun k hk=>by cases hk⟩;simp only [Go.builtin,Sem.run_bind,r,Result.andThen_ok,Sem.run_pure]
def q_y:DirDef:=⟨E0,E0,[],[],false⟩
def dirS (dirs:List DirDef)(n:BA):Option DirDef:=a_h DirDef.name (d_s++dirs) n
def dirG (dirs:List DirDef)(n:BA):DirDef × Bool:=match dirS dirs n with
 | some d=>(d,true)
 | none=>(q_y,false)
theorem q_k {dirs:List DirDef}{n:BA}{f:DirDef}(h:dirS dirs n=some f):dirG dirs n=(f,true):=by rw [dirG,h]
theorem q_j {dirs:List DirDef}{n:BA}(h:dirS dirs n=none):dirG dirs n=(q_y,false):=by rw [dirG,h]
theorem RPre.shape {w:World}{k1 k2 k3 k4 k5 k6 k7 k8:Nat}{x:DirDef}{cs:List Value}(h:RPre w (a_y k1 k2 k3 k4 k5 k6 k7 k8) x cs):∃ a l c a' l' c',cs=[.string x.doc,.string x.name,.slice a l c,.slice a' l' c',.bool x.rep]:=by
 rcases h with ⟨a,l,c,a',l',c',rfl,-⟩|h
 ·exact ⟨_,_,_,_,_,_,rfl⟩
 ·simp only [a_y,mc_,nn_,or_false,Prod.mk.injEq] at h;rcases h with ⟨rfl,rfl⟩|⟨rfl,rfl⟩|⟨rfl,rfl⟩|⟨rfl,rfl⟩<;>exact ⟨_,_,_,_,_,_,rfl⟩
section
variable {k:Nat} {A4:OA} {L4 C4:Nat} {A:OA} {L C:Nat} {A3:OA} {L3 C3:Nat} {dirs:List DirDef}
theorem q_m {n:BA}{w:World}(hDB:DB.B<=w.heap.size)(hB:Blk w k 79 [.slice A4 L4 C4,.slice A L C,.slice A3 L3 C3])(hD:a_Y w A3 L3 C3 dirs)(few:dirs.length<=12):
  CP 67 #[.pointer (some (adr k)),.string n] w fun e w'=>∃ cs,e=.returned (.tuple #[.agg cs.toArray,.bool (dirG dirs n).2])/\c_v w' (dirG dirs n).1 cs/\EF w w':=by
 have x3:EF w (w.alloc (.cells #[.string ⟨#[]⟩,.string ⟨#[]⟩,.slice none 0 0,.slice none 0 0,.bool false] 105)):=(Ext.refl w).alloc _;have hz3:=(Blk.made w 105 [.string ⟨#[]⟩,.string ⟨#[]⟩,.slice none 0 0,.slice none 0 0,.bool false]).lt;refine q_s (some (adr k)) n w _ ⟨trivial,fun w4 e4=>?_⟩;have x4:EF w w4:=by rw [e4];exact x3.drew
 have hz4:w.heap.size<w4.heap.size:=Nat.lt_of_lt_of_le hz3 (by rw [e4];exact ((Ext.refl _).drew (X:=fun _=>False)).size);have a4:=(hB.ext x4 id).at (j:=2) rfl;refine ⟨adr k,rfl,_,_,_,a4.cell,?_⟩;refine (l_5 w w4 (lt_ hDB x4.size)).mono ?_;rintro _ w8 ⟨D,T,L0,C0,k1,k2,k3,k4,k5,k6,k7,k8,rfl,x8,-, ⟨cells,oD,fD⟩,hbl,hge⟩;have y8:=x4.then x8;obtain ⟨A14,C14,w15,r15,⟨cells',o15,f15⟩,x15⟩:=q_F 23 105 Tryz.t105 _ 5 _ (by kernel_rfl) (by kernel_rfl) rfl (by kernel_rfl) rfl (by kernel_rfl) (by omega) (by decide) oD x8.size (by omega) fD (R:=RPre w (a_y k1 k2 k3 k4 k5 k6 k7 k8)) (SlL.keep y8.keep (by decide) hD fun _ _ _ h=>.inl h) (fun x cs h=>by
  obtain ⟨a,l,c,a',l',c',rfl⟩:=RPre.shape h;rfl) (by have:=hD.len;omega) 23 #[false,false]
 have y15:=y8.then x15;have bl15:=hbl.keep x15 fun _ _=>id;have hlen:=hD.len;have acc:Acc w4 w15 105 5 (RPre w (a_y k1 k2 k3 k4 k5 k6 k7 k8)) A14 (4+L3) C14 (d_s++dirs):=⟨x8.then x15,by rw [la_];simp [d_s];omega,cells',o15,f15⟩;refine ⟨_,_,_,_,_,_,_,_,_,_,_,_,_,_,_,rfl,⟨x8.keepT _,trivial⟩,⟨x8.cell_eq id a4.cell,trivial⟩,A14,4+L3,C14,w15,r15,⟨x15.keepT _,trivial⟩,trivial,fun i _ _ _ _ _ _ _ _ _ w1=>0<=i/\i<=((4+L3:Nat):Int)/\EF w15 w1/\a_h DirDef.name ((d_s++dirs).take i.toNat) n=none,fun i _ _ _ _ _ _ _ _ _ _=>(((4+L3:Nat):Int)-i).toNat,⟨by omega,by omega,Ext.refl w15,by simp [a_h]⟩,?_⟩;rintro i s19 s20 a21 l21 c21 a22 l22 c22 b23 w1 ⟨h0,hi,hx,hf1⟩;have y1:=y15.then hx;refine ⟨fun hlt=>?_,fun hge'=>?_⟩
 ·have hlt:=odt hlt;obtain ⟨p,x,cs,hp,hxs,hr,hat⟩:=(acc.step hx).get h0 hlt;obtain ⟨a,l,c,a',l',c',rfl⟩:=RPre.shape hr;have y32:=y1.alloc (.cells #[.string x.doc,.string x.name,.slice a l c,.slice a' l' c',.bool x.rep] 105);have h32:=hx.alloc (.cells #[.string x.doc,.string x.name,.slice a l c,.slice a' l' c',.bool x.rep] 105);refine ⟨p,hp,⟨h0,hlt⟩,_,(hat 0 _ rfl).cell,_,(hat 1 _ rfl).cell,_,_,_,(hat 2 _ rfl).cell,_,_,_,(hat 3 _ rfl).cell,_,(hat 4 _ rfl).cell,trivial,trivial,fun he=>?_,fun hne=>?_⟩
  ·rw [q_k (show dirS dirs n=some x from c_J hf1 hxs (a_b.1 he))];have yE:=y32.setB (b:=w.heap.size) (.inr (Nat.le_refl _)) [.string x.doc,.string x.name,.slice a l c,.slice a' l' c',.bool x.rep] 105;refine ⟨trivial,_,rfl,?_,yE⟩;rcases hr with hr|hr
   ·exact hr.keep yE.keep
   ·refine m_E (fun y hy=>?_) _ hr;have hs:Ext (fun b=>b=w.heap.size) _ (setB (w1.alloc (.cells #[.string x.doc,.string x.name,.slice a l c,.slice a' l' c',.bool x.rep] 105)) w.heap.size [.string x.doc,.string x.name,.slice a l c,.slice a' l' c',.bool x.rep] 105):=Ext.setB (X:=fun b=>b=w.heap.size) (Ext.refl _) (.inl rfl) _ _;exact ((bl15 y hy).ext h32 id).ext hs fun e=>by
     have:=hge y hy;have e':y.1=w.heap.size:=e;omega
  ·rw [a_a h0 (by omega)];exact next h0 hlt ⟨h32,c_h h0 hf1 hxs (a_f.1 hne)⟩
 ·have hle:=odf hge';have hl4:(d_s++dirs).length=4+L3:=by rw [la_];simp [d_s];omega
  rw [tl_ (by omega)] at hf1;rw [q_j (show dirS dirs n=none from hf1)];have yE:=y1.setB (b:=w.heap.size) (.inr (Nat.le_refl _)) [.string ⟨#[]⟩,.string ⟨#[]⟩,.slice none 0 0,.slice none 0 0,.bool false] 105;exact ⟨trivial,trivial,_,rfl,⟨none,0,0,none,0,0,rfl,SlL.nil ..,SlL.nil ..⟩,yE⟩
variable {a:OA} {l c:Nat} {a':OA} {l' c':Nat} {ops:List OpD} {frags:List Frag} {w:World}
def onceN (dirs:List DirDef)(ds:List Dir):List BA:=(ds.filter fun d=>(dirG dirs d.name).2&& !(dirG dirs d.name).1.rep).map Dir.name
end
def askF (types:List Def)(x:Sel × BA):List (List Argm × List ArgDef):=match x.1 with
 | .mk k _ n _ args _ _=>if k=0/\(b_K types x.2 n).2=true then [(args,(b_K types x.2 n).1.args)] else []
def askD (dirs:List DirDef)(d:Dir):List (List Argm × List ArgDef):=if (dirG dirs d.name).2=true then [(d.args,(dirG dirs d.name).1.args)] else []
def asks (types:List Def)(dirs:List DirDef)(roots:List RootD)(ops:List OpD)(frags:List Frag):List (List Argm × List ArgDef):=(atAll types roots ops frags).flatMap (askF types)++(usesD ops frags).flatMap fun u=>u.1.flatMap (askD dirs)
structure CloA (g:FuncId) (cap:List Value) (X:Nat->Prop) (P:List (List Argm × List ArgDef)->World->Prop):Prop where
 fn:∃ fn,Tryz.prog.funcs[g]? =some fn/\(fn.name== "runtime.NumGoroutine" ||fn.body.isNone)=false
 st:∀ l w w',P l w->EF w w'->P l w'
 call:∀ (l:List (List Argm × List ArgDef)) (w:World) (args:List Argm) (defs:List ArgDef) (a:OA) (m c:Nat) (a':OA) (m' c':Nat),P l w->c_1 w a m c args->a_R w a' m' c' defs->CP g ([Value.slice a m c,Value.slice a' m' c']++cap).toArray w fun e w'=>e=.returned (.tuple #[])/\SSt X w w'/\P (l++[(args,defs)]) w'
section
variable {k:Nat} {A4:OA} {L4 C4:Nat} {A:OA} {L C:Nat} {A3:OA} {L3 C3:Nat} {types:List Def} {g:FuncId} {cap:List Value} {X:Nat->Prop} {P:List (List Argm × List ArgDef)->World->Prop}
def PAs (k:Nat)(A4:OA)(L4 C4:Nat)(A:OA)(L C:Nat)(A3:OA)(L3 C3:Nat)(types:List Def)(g:FuncId)(cap:List Value)(P:List (List Argm × List ArgDef)->World->Prop)(wb fb:Nat)(l:List (Sel × BA))(w:World):Prop:=
 Blk w wb 33 [.pointer (some (adr k))]/\Blk w k 79 [.slice A4 L4 C4,.slice A L C,.slice A3 L3 C3]/\RDefs w A4 L4 C4 types/\Blk w fb 97 [.func (.func g) #[] cap.toArray]/\P (l.flatMap (askF types)) w
theorem q_W {wb fb:Nat}(hw:¬ X wb)(hk:¬ X k)(hf:¬ X fb)(hg:CloA g cap X P):Clo 113 [.pointer (some (adr wb)),.pointer (some (adr fb))] X (PAs k A4 L4 C4 A L C A3 L3 C3 types g cap P wb fb):=by
 obtain ⟨fn,hfn,hfb⟩:=hg.fn;refine ⟨⟨_,Tryz.func113,by kernel_rfl⟩,fun l w w' ⟨p1,p2,p3,p4,p5⟩ hx=>⟨p1.ext hx id,p2.ext hx id,p3.keep hx.keep,p4.ext hx id,hg.st _ _ _ p5 hx⟩,?_⟩;rintro l w ⟨k',al,n,on,args,dirs,kids⟩ u cs ⟨p1,p2,p3,p4,p5⟩ hv hsm hok hu -;obtain ⟨a1,l1,c1,a2,l2,c2,a3,l3,c3,rfl,hv1,hv2,hv3⟩:=c_w.1 hv;have hn:n.size<=4194304:=hsm (.string n) (by simp);have x11:EF w (w.alloc (.cells #[.int .i64 k',.string al,.string n,.string on,.slice a1 l1 c1,.slice a2 l2 c2,.slice a3 l3 c3] 67)):=(Ext.refl w).alloc _;refine p_9 k' al n on a1 l1 c1 a2 l2 c2 a3 l3 c3 u (adr wb) (adr fb) w _ ⟨trivial,some (adr k),((p1.ext x11 id).at (j:=0) rfl).cell,?_⟩;refine (e_p (types:=types) hu hn (p2.ext x11 id) (p3.keep x11.keep)).mono ?_;rintro _ w14 ⟨cs14,rfl,⟨f0,fl0,fc0,f1,fl1,fc1,tn,f2,fl2,fc2,nn,f3,fl3,fc3,rfl,hdefs,-⟩,-, x14⟩;have z25:EF w14 (w14.alloc (.cells #[.string (b_K types u n).1.doc,.string (b_K types u n).1.name,.slice f0 fl0 fc0,.slice f1 fl1 fc1,.string tn,.slice f2 fl2 fc2,.bool nn,.slice f3 fl3 fc3] 70)):=(Ext.refl w14).alloc _;have x25:=(x11.then x14).then z25;refine ⟨_,_,_,_,_,_,_,_,_,_,_,_,_,_,_,_,_,rfl,⟨x14.keepT _,trivial⟩,trivial,trivial,fun K26 hK26=>?_⟩;have hlist:∀ z:Bool,(z=true↔k'=0/\(b_K types u n).2=true)->askF types (.mk k' al n on args dirs kids,u)=if z=true then [(args,(b_K types u n).1.args)] else []:=fun z hz=>by
  show (if k'=0/\(b_K types u n).2=true then _ else _)=_;by_cases h:z=true
  ·rw [if_pos h,if_pos (hz.1 h)]
  ·rw [if_neg h,if_neg fun k=>h (hz.2 k)]
 have key:∀ z:Bool,(z=true↔k'=0/\(b_K types u n).2=true)->K26 z (w14.alloc (.cells #[.string (b_K types u n).1.doc,.string (b_K types u n).1.name,.slice f0 fl0 fc0,.slice f1 fl1 fc1,.string tn,.slice f2 fl2 fc2,.bool nn,.slice f3 fl3 fc3] 70)):=by
  intro z hz;have hl:=hlist z hz;refine hK26 z _ ⟨fun h=>?_,fun h=>⟨rfl,SSt.of0 x25,p1.ext x25 id,p2.ext x25 id,p3.keep x25.keep,p4.ext x25 id,?_⟩⟩
  ·refine ⟨_,((p4.ext x25 id).at (j:=0) rfl).cell,g,cap,rfl,fn,hfn,hfb,?_⟩;refine (hg.call _ _ args (b_K types u n).1.args a1 l1 c1 f0 fl0 fc0 (hg.st _ _ _ p5 x25) (hv1.keep x25.keep) (hdefs.keep z25.keep)).mono ?_;rintro _ w34 ⟨rfl,s34,P34⟩;have t34:=(SSt.of0 (X:=X) x25).trans s34;refine ⟨rfl,⟨s34.kt _ (by decide),s34.kt _ (by decide),trivial⟩,rfl,t34,p1.ext t34.ext hw,p2.ext t34.ext hk,p3.keep t34.keep,p4.ext t34.ext hf,?_⟩;rw [List.flatMap_append,List.flatMap_cons,List.flatMap_nil,List.append_nil,hl,if_pos h];exact P34
  ·rw [List.flatMap_append,List.flatMap_cons,List.flatMap_nil,List.append_nil,hl,if_neg (by rw [h];simp),List.append_nil];exact hg.st _ _ _ p5 x25
 exact ⟨fun h=>key _ ⟨fun k=>⟨by simpa using h,k⟩,fun k=>k.2⟩,fun h=>key false ⟨nofun,fun k=>by simp [k.1] at h⟩⟩
theorem q_d {roots:List RootD}{dirs:List DirDef}{a:OA}{l c:Nat}{a':OA}{l' c':Nat}{ops:List OpD}{frags:List Frag}{w:World}(hDB:DB.B<=w.heap.size)(hX:∀ b,X b->b<w.heap.size)(hk:¬ X k)(hg:CloA g cap X P)(hB:Blk w k 79 [.slice A4 L4 C4,.slice A L C,.slice A3 L3 C3])(hT:RDefs w A4 L4 C4 types)(hR:b_w w A L C roots)(hD:a_Y w A3 L3 C3 dirs)(few:dirs.length<=12)(hl:ROps w a l c ops)(hl':a_X w a' l' c' frags)(ok1:∀ x∈ops,okOp x)(ok2:∀ x∈frags,b_j x)(hs:docW ops frags<=2097152)(hP:P [] w):
  CP 62 #[.pointer (some (adr k)),.agg #[.slice a l c,.slice a' l' c'],.func (.func g) #[] cap.toArray] w fun e w'=>e=.returned (.tuple #[])/\SSt X w w'/\P (asks types dirs roots ops frags) w':=by
 obtain ⟨fn,hfn,hfb⟩:=hg.fn;have hul:=lt_ (q_z ops frags) hs;have x5:EF w (w.alloc (.cells #[.pointer (some (adr k))] 33)):=(Ext.refl w).alloc _;have B5:Blk (w.alloc (.cells #[.pointer (some (adr k))] 33)) w.heap.size 33 [.pointer (some (adr k))]:=Blk.made w 33 [.pointer (some (adr k))];refine q_g (some (adr k)) a l c a' l' c' (.func (.func g) #[] cap.toArray) w _ ⟨trivial,?_⟩;generalize w.alloc (.cells #[.pointer (some (adr k))] 33)=w5 at *;have x6:EF w5 (w5.alloc (.cells #[.slice a l c,.slice a' l' c'] 30)):=(Ext.refl w5).alloc _;refine ⟨trivial,?_⟩;show (_/\True)/\_;generalize w5.alloc (.cells #[.slice a l c,.slice a' l' c'] 30)=w6 at *;have B7:Blk (w6.alloc (.cells #[.func (.func g) #[] cap.toArray] 97)) w6.heap.size 97 [.func (.func g) #[] cap.toArray]:=Blk.made w6 97 [.func (.func g) #[] cap.toArray];have x7:EF w6 (w6.alloc (.cells #[.func (.func g) #[] cap.toArray] 97)):=(Ext.refl w6).alloc _;refine ⟨⟨rfl,trivial⟩,?_⟩;show ∃ _,_;generalize w6.alloc (.cells #[.func (.func g) #[] cap.toArray] 97)=w7 at *;have y7:=(x5.then x6).then x7;have B57:=(B5.ext x6 id).ext x7 id;have hz5:=x5.size;have hz6:=x6.size;have hwX:¬ X w.heap.size:=fun h=>by have:=hX _ h;omega
 have hfX:¬ X w6.heap.size:=fun h=>by have:=hX _ h;omega
 refine ⟨some (adr k),(B57.at (j:=0) rfl).cell,?_⟩;refine (j_4 (X:=X) (P:=PAs k A4 L4 C4 A L C A3 L3 C3 types g cap P w.heap.size w6.heap.size) hk (q_W hwX hk hfX hg) (hB.ext y7 id) (hT.keep y7.keep) (hR.keep y7.keep) (hl.keep y7.keep) (hl'.keep y7.keep) ok1 ok2 ⟨B57,hB.ext y7 id,hT.keep y7.keep,B7,hg.st _ _ _ hP y7⟩).mono ?_;rintro _ w10 ⟨rfl,s10,p1,p2,-, p4,P10⟩;have v10:SSt X w w10:=(SSt.of0 y7).trans s10;have hz10:=v10.ext.size;refine ⟨rfl,⟨s10.kt _ (by decide),trivial⟩,?_⟩;refine (q_Z (w0:=w10) (Ext.refl w10) (hl.keep v10.keep) (hl'.keep v10.keep) ok1 ok2 hs).mono ?_;rintro _ w12 ⟨A13,L13,C13,rfl,ac⟩;have hL13:=ac.2.1;have hown:∀ p:Addr,A13=some p->¬ X p.block:=fun p hp h=>by
  obtain ⟨-, -, cells,ho,-⟩:=ac;have:=(ho.base p.block ⟨p,hp,rfl⟩).1;have:=hX _ h;omega
 refine ⟨A13,L13,C13,rfl,⟨ac.1.keepT _,trivial⟩,fun i w1=>0<=i/\i<=L13/\SSt X w12 w1/\P ((atAll types roots ops frags).flatMap (askF types)++((usesD ops frags).take i.toNat).flatMap fun u=>u.1.flatMap (askD dirs)) w1,fun i _=>((L13:Int)-i).toNat,⟨by omega,by omega,SSt.refl w12,by simpa using hg.st _ _ _ P10 ac.1⟩,?_⟩;rintro i w1 ⟨h0,hi,hx,hP1⟩;refine ⟨fun hlt=>?_,fun hge=>?_⟩
 ·have hlt:=odt hlt;obtain ⟨p,⟨ds,loc⟩,cs,hp,hus,hr,hat⟩:=ac.get h0 hlt;obtain ⟨b1,m1,d1,rfl,hds⟩:=hr;obtain ⟨e1,e3⟩:=hds.len;replace e1:m1=ds.length:=e1;have hat':∀ k u,[Value.slice b1 m1 d1,.string loc][k]? =some u->At w1 101 ((p.add (i.toNat*2)).add k) u:=fun k u hu=>hx.ext.at (by rw [b_x,b_x];exact hown p hp) (hat k u hu);have v1:SSt X w10 w1:=(SSt.of0 ac.1).trans hx;have x22:EF w1 (w1.alloc (.cells #[.slice b1 m1 d1,.string loc] 101)):=(Ext.refl w1).alloc _;refine ⟨p,hp,⟨h0,hlt⟩,_,_,_,(hat' 0 _ rfl).cell,_,(hat' 1 _ rfl).cell,trivial,trivial,fun j w2=>0<=j/\j<=m1/\SSt X w1 w2/\P (((atAll types roots ops frags).flatMap (askF types)++((usesD ops frags).take i.toNat).flatMap fun u=>u.1.flatMap (askD dirs))++(ds.take j.toNat).flatMap (askD dirs)) w2,fun j _=>((m1:Int)-j).toNat,⟨by omega,by omega,SSt.of0 x22,by simpa using hg.st _ _ _ hP1 x22⟩,?_⟩;rintro j w2 ⟨j0,hj,hy,hP2⟩;have v2:=v1.trans hy;have u2:=v10.trans v2;refine ⟨fun hjl=>fun K27 hK27=>?_,fun hjg=>?_⟩
  ·have hjl:=odt hjl;obtain ⟨p2',d,hp2,hd,cs2,hc,b2,m2,d2,rfl,hargs⟩:=(RDirs.keep v2.keep hds).get j0 hjl;obtain ⟨⟨_,_,hc0⟩,hs0,⟨_,_,hc1⟩,-⟩:=hc;have x33:EF w2 (w2.alloc (.cells #[.string d.name,.slice b2 m2 d2] 103)):=(Ext.refl w2).alloc _;have u33:=u2.trans (SSt.of0 x33);have key:∀ w',SSt X w2 w'->P (((atAll types roots ops frags).flatMap (askF types)++((usesD ops frags).take i.toNat).flatMap fun u=>u.1.flatMap (askD dirs))++(ds.take (j+1).toNat).flatMap (askD dirs)) w'->K27 w':=by
    intro w' s' P';refine hK27 w' ?_;rw [a_a j0 (by omega)];exact next j0 hjl ⟨hy.trans s',P'⟩
   have hsn:=h_M (askD dirs) j0 hd;refine ⟨p2',hp2,⟨j0,hjl⟩,_,hc0.cell,_,_,_,hc1.cell,trivial,trivial,some (adr k),(((p1.ext v2.ext hwX).ext x33 id).at (j:=0) rfl).cell,?_⟩;refine (q_m (n:=d.name) (lt_ hDB u33.ext.size) (hB.ext u33.ext hk) (hD.keep u33.keep) few).mono ?_;rintro _ w36 ⟨cs36,rfl,⟨a0,l0,c0,a1,l1,c1,rfl,hdefs,-⟩,x36⟩;have z44:EF w36 (w36.alloc (.cells #[.string (dirG dirs d.name).1.doc,.string (dirG dirs d.name).1.name,.slice a0 l0 c0,.slice a1 l1 c1,.bool (dirG dirs d.name).1.rep] 105)):=(Ext.refl w36).alloc _;have x44:=(x33.then x36).then z44;refine ⟨_,_,_,_,_,_,_,_,_,_,rfl,⟨x36.keepT _,x36.keepT _,x36.keepT _,trivial⟩,trivial,trivial,fun h=>?_,fun h=>key _ (SSt.of0 x44) ?_⟩
   ·refine ⟨_,((p4.ext (v2.trans (SSt.of0 x44)).ext hfX).at (j:=0) rfl).cell,g,cap,rfl,fn,hfn,hfb,?_⟩;refine (hg.call _ _ d.args (dirG dirs d.name).1.args b2 m2 d2 a0 l0 c0 (hg.st _ _ _ hP2 x44) (hargs.keep x44.keep) (hdefs.keep z44.keep)).mono ?_;rintro _ w50 ⟨rfl,s50,P50⟩;refine ⟨rfl,⟨s50.kt _ (by decide),s50.kt _ (by decide),s50.kt _ (by decide),s50.kt _ (by decide),trivial⟩,key w50 ((SSt.of0 x44).trans s50) ?_⟩;rw [hsn,askD,if_pos h,<- List.append_assoc];exact P50
   ·rw [hsn,askD,if_neg (by rw [h];simp),List.append_nil];exact hg.st _ _ _ hP2 x44
  ·have hje:=odf hjg;rw [tl_ (l:=ds) (by omega)] at hP2;rw [a_a h0 (by omega)];refine next h0 hlt ⟨hx.trans hy,?_⟩
   rw [h_M (fun u:List Dir × BA=>u.1.flatMap (askD dirs)) h0 hus,<- List.append_assoc];exact hP2
 ·have hle:=odf hge;rw [tl_ (by omega)] at hP1;exact ⟨rfl,v10.trans ((SSt.of0 ac.1).trans hx),hP1⟩
end
def p_P (x:List Argm × List ArgDef):Prop:=∃ a∈x.1,a_h ArgDef.name x.2 a.name=none
end Go.VC
namespace Go.VC
open Go Go.Proofs
set_option maxRecDepth 100000
theorem u_G (a:OA)(b:OA)(c d:Nat)(e:OA)(f g:Nat)(w:World)(R:EW)(h:
 True/\(let i:=w.alloc (.cells #[S9 b c d,S9 e f g] 30);
 True/\(let j:=i.alloc (.cells #[.bool false] 4);
 Off j (adr i.heap.size) 1 [30]/\True/\(let k:=(j.setCell (adr i.heap.size) (.bool false));
 C0 62 #[P9 a,(.agg #[S9 b c d,S9 e f g]),(.func (.func 86) #[] #[(P9 (some (adr i.heap.size)))])] k (fun l=>(KeepT 30 k l/\True)/\Lb l (adr i.heap.size) fun m=>R (R9 (.bool m)) l))))):CP 39 #[P9 a,(.agg #[S9 b c d,S9 e f g])] w R:=
 vcq Tryz.func39 [3] [] [.l (.optr a),.agg [.slice b c d,.slice e f g]] h
theorem u_E (a:OA)(b c:Nat)(d:OA)(e f:Nat)(g:Addr)(w:World)(R:EW)(h:
 ∃ (i:Int->World->Prop) (j:Int->World->Nat),i 0 w/\
 (∀ k:Int,∀ l:World,i k l->
 (Br (decide (k<(e:Int))) (∀ m:World->Prop,(∀ n:World,
 ((i (wr (k+1)) n/\j (wr (k+1)) n<j k l))->
 m n)->
 Ix d k e fun o=>L_ssslbll l (o.add (k.toNat*7)) fun p q r s t u v x y z A B C=>True/\True/\(let E:=l.alloc (.cells #[T9 p,T9 q,T9 r,S9 s t u,.bool v,S9 x y z,S9 A B C] 125);
 ∀ F,F=E.drew->Lb F g fun G=>(Br G (Off F g 1 [125]/\True/\(let H:=(F.setCell g (.bool true));
 True/\m H)) ((Br v ((Br ((y:Int)==0) (Cl 87 #[S9 a b c] F (fun I J K L=>(KeepT 125 F L/\True)/\((1=1)/\True)/\Cb 68 #[T9 q,S9 I J K] L (fun M N=>(KeepT 125 L N/\True)/\True/\Off N g 1 [125]/\True/\(let O:=(N.setCell g (.bool (!M)));
 True/\m O)))) (Off F g 1 [125]/\True/\(let P:=(F.setCell g (.bool false));
 True/\m P)))) (Off F g 1 [125]/\True/\(let Q:=(F.setCell g (.bool false));
 True/\m Q))))))) (R (R9 (.tuple #[])) l)))):CP 86 #[S9 a b c,S9 d e f,(P9 (some g))] w R:=
 vcq Tryz.func86 [6] [(3,⟨[(9,.int .i64)],[]⟩),(10,⟨[],[]⟩)] [.l (.slice a b c),.l (.slice d e f),.l (.ptr g)] h
theorem u_M (a:OA)(b c:Nat)(w:World)(R:EW)(h:
 ∃ (d:OA->Nat->Nat->Int->World->Prop) (e:OA->Nat->Nat->Int->World->Nat),d none 0 0 0 w/\
 (∀ (f:OA) (g i:Nat),∀ j:Int,∀ k:World,d f g i j k->
 (Br (decide (j<(b:Int))) (Ix a j b fun l=>L_sisl k (l.add (j.toNat*4)) fun m n o p q r=>True/\True/\(let t:=k.alloc (.cells #[T9 m,N9 n,T9 o,S9 p q r] 167);
 True/\(let u:=t.alloc (.cells #[T9 m] 9);
 ∃ v x y,∃ z,(Go.builtin .append #[81,81] 81 #[false,false] #[S9 f g i,(S9 (some (adr t.heap.size)) 1 1)]).run Tryz.prog u=.ok (.value (S9 v x y)) z/\(KeepT 167 u z/\True)/\(d v x y (wr (j+1)) z/\e v x y (wr (j+1)) z<e f g i j k)))) (R (R9 (S9 f g i)) k)))):CP 87 #[S9 a b c] w R:=
 vcq Tryz.func87 [5] [(8,⟨[(3,.slice),(8,.int .i64)],[]⟩)] [.l (.slice a b c)] h
theorem u_D (a:OA)(b c:Nat)(d:OA)(e f:Nat)(g:OA)(i j:Nat)(k:OA)(l m:Nat)(n:OA)(o p:Nat)(q:OA)(r s:Nat)(t:OA)(u v:Nat)(w:World)(R:EW)(h:
 True/\(let x:=w.alloc (.cells #[S9 a b c,S9 d e f,S9 g i j,S9 k l m,S9 n o p] 26);
 True/\(let y:=x.alloc (.cells #[S9 q r s,S9 t u v] 30);
 ∀ z:Bool->World->Prop,(∀ A:Bool,∀ B:World,
 ((Br A (R (R9 (.bool true)) B) (CP 13 #[(.agg #[S9 a b c,S9 d e f,S9 g i j,S9 k l m,S9 n o p])] B (fun C D=>∃ E,∃ F,C=R9 (.tuple #[P9 E,.bool F])/\(KeepT 26 B D/\KeepT 30 B D/\True)/\∀ G:Bool->World->Prop,(∀ H:Bool,∀ I:World,
 ((Br H (R (R9 (.bool true)) I) (∀ J,J=I.drew->CP 18 #[P9 E] J (fun K L=>∃ M N O,∃ P Q S,∃ U,∃ V,∃ W,∃ X Y Z,∃ aa ab ac,K=R9 (.agg #[S9 M N O,S9 P Q S,T9 U,T9 V,T9 W,S9 X Y Z,S9 aa ab ac])/\(KeepT 26 J L/\KeepT 30 J L/\True)/\((0=0)/\True)/\CP 38 #[(.agg #[S9 M N O,S9 P Q S,T9 U,T9 V,T9 W,S9 X Y Z,S9 aa ab ac]),(.agg #[S9 q r s,S9 t u v])] L (fun ad ae=>∃ af,∃ ag,ad=R9 (.tuple #[N9 af,.bool ag])/\(KeepT 26 L ae/\KeepT 30 L ae/\True)/\True/\True/\True/\Cb 39 #[P9 E,(.agg #[S9 q r s,S9 t u v])] ae (fun ah ai=>(KeepT 26 ae ai/\KeepT 30 ae ai/\True)/\Cb 19 #[N9 af,.bool ag,.bool ah] ai (fun aj ak=>(KeepT 26 ai ak/\KeepT 30 ai ak/\True)/\R (R9 (.bool aj)) ak)))))))->
 G H I)->
 (Nr (!F) (Cb 14 #[(.agg #[S9 q r s,S9 t u v])] D (fun al am=>(KeepT 26 D am/\KeepT 30 D am/\True)/\(Nr (!al) (Cb 15 #[P9 E,(.agg #[S9 q r s,S9 t u v])] am (fun an ao=>(KeepT 26 am ao/\KeepT 30 am ao/\True)/\(Nr (!an) (Cb 16 #[P9 E,(.agg #[S9 q r s,S9 t u v])] ao (fun ap aq=>(KeepT 26 ao aq/\KeepT 30 ao aq/\True)/\G ap aq)) (G true ao)))) (G true am)))) (G true D))))))->
 z A B)->
 Cb 11 #[(.agg #[S9 a b c,S9 d e f,S9 g i j,S9 k l m,S9 n o p])] y (fun ar au=>(KeepT 26 y au/\KeepT 30 y au/\True)/\(Nr (!ar) (Cb 12 #[(.agg #[S9 q r s,S9 t u v])] au (fun av ax=>(KeepT 26 au ax/\KeepT 30 au ax/\True)/\z (!av) ax)) (z true au)))))):CP 10 #[(.agg #[S9 a b c,S9 d e f,S9 g i j,S9 k l m,S9 n o p]),(.agg #[S9 q r s,S9 t u v])] w R:=
 vcq Tryz.func10 [2,3] [(3,⟨[(16,.bool)],[]⟩),(13,⟨[(39,.bool)],[]⟩)] [.agg [.slice a b c,.slice d e f,.slice g i j,.slice k l m,.slice n o p],.agg [.slice q r s,.slice t u v]] h
variable [DB]
theorem u_L {a:OA}{l c:Nat}{xs:List Argm}{w:World}(hl:c_1 w a l c xs):
  CP 87 #[.slice a l c] w fun e w'=>∃ A L C,e=.returned (.slice A L C)/\EF w w'/\RStrs w' A L C (xs.map Argm.name):=by
 obtain ⟨e1,e3⟩:=hl.len;refine u_M a l c w _ ⟨fun A L C i w1=>0<=i/\i<=l/\EF w w1/\L=i.toNat/\∃ cells,Own w.heap.size w1 9 1 A L C cells/\Flat 1 RS ((xs.take i.toNat).map Argm.name) cells,fun _ _ _ i _=>((l:Int)-i).toNat,⟨by omega,by omega,Ext.refl w,rfl,[],Own.nil ..,.nil⟩,?_⟩;rintro A L C i w1 ⟨h0,hi,hx,hL,cells,hown,hf⟩;refine ⟨fun hlt=>?_,fun hge=>?_⟩
 ·have hlt:=odt hlt;obtain ⟨p,x,hp,hxs,cs,hc,k,r,a',l',c',rfl,hv⟩:=hl.get h0 hlt;obtain ⟨⟨_,_,hc0⟩,hs0,⟨_,_,hc1⟩,hs1,⟨_,_,hc2⟩,hs2,⟨_,_,hc3⟩,-⟩:=hc;refine ⟨p,hp,⟨h0,hlt⟩,_,hx.cell hc0 id,_,hx.cell hc1 id,_,hx.cell hc2 id,_,_,_,hx.cell hc3 id,trivial,trivial,trivial,?_⟩;have hx15:EF w1 (w1.alloc (.cells #[.string x.name,.int .i64 k,.string r,.slice a' l' c'] 167)):=(Ext.refl w1).alloc _;obtain ⟨A2,C2,w20,r1,⟨cells2,o2,f2⟩,x2,k2⟩:=a_S (hown.keep hx15 fun _ _=>id) (lt_ hx.size hx15.size) hf (s:=x.name) hs0 (by omega);have hx20:EF w w20:=(hx.then hx15).trans x2 fun b hb hbl=>by
   have:=((hown.keep hx15 fun _ _=>id).base b hbl).1;omega
  refine ⟨A2,L+1,C2,w20,r1,⟨k2 167 (by decide),trivial⟩,?_⟩;rw [a_a h0 (by omega)];refine next h0 hlt ⟨hx20,by omega,cells2,o2,?_⟩
  rw [take_snoc' h0 hxs];simpa using f2
 ·have hle:=odf hge;rw [tl_ (by omega)] at hf;exact ⟨A,L,C,rfl,hx,hown.sl hf (by omega) (by omega)⟩
def mustT:Typ->Bool
 | .mk _ _ nn=>nn
def wantA (args:List Argm)(x:ArgDef):Prop:=mustT x.t=true/\x.dflt=[]/\x.name∉args.map Argm.name
def wantL (x:List Argm × List ArgDef):Prop:=∃ d∈x.2,wantA x.1 d
def PAw (ob:Nat)(l:List (List Argm × List ArgDef))(w:World):Prop:=∃ b:Bool,Blk w ob 4 [.bool b]/\(b=true↔∃ x∈l,wantL x)
theorem u_T {ob:Nat}(hDB:DB.B<=ob):CloA 86 [.pointer (some (adr ob))] (fun b=>b=ob) (PAw ob):=by
 refine ⟨⟨_,Tryz.func86,by kernel_rfl⟩,fun l w w' ⟨b,p4,p5⟩ hx=>⟨b,p4.ext hx id,p5⟩,?_⟩;rintro l w args defs a m c a' m' c' ⟨b0,p4,p5⟩ h1 h2;obtain ⟨e1,e3⟩:=h2.len;refine u_E a m c a' m' c' (adr ob) w _ ⟨fun i w1=>0<=i/\i<=m'/\SSt (fun b=>b=ob) w w1/\∃ b:Bool,Blk w1 ob 4 [.bool b]/\(b=true↔(∃ x∈l,wantL x)∨∃ d∈defs.take i.toNat,wantA args d),fun i _=>((m':Int)-i).toNat,⟨by omega,by omega,SSt.refl w,b0,p4,by simpa using p5⟩,?_⟩;rintro i w1 ⟨i0,hi,hx,b,B1,hb⟩;refine ⟨fun hlt=>fun K hK=>?_,fun hge=>?_⟩
 ·have hlt:=odt hlt;obtain ⟨p,d,hp,hd,cs,hc,n5,a5,l5,c5,nn5,a6,l6,c6,a7,l7,c7,rfl,ht,hv,-⟩:=(a_R.keep hx.keep h2).get i0 hlt;obtain ⟨⟨_,_,g0⟩,t0,⟨_,_,g1⟩,t1,⟨_,_,g2⟩,t2,⟨_,_,g3⟩,t3,⟨_,_,g4⟩,t4,⟨_,_,g5⟩,t5,⟨_,_,g6⟩,-⟩:=hc;have hnn:mustT d.t=nn5:=by
   cases hdt:d.t with
   | mk n el nn=>
    rw [hdt] at ht;simp only [RTyp] at ht;exact ht.2.1.symm
  have hl6:l6=0↔d.dflt=[]:=by
   obtain ⟨e6,-⟩:=hv.len;rw [e6];exact List.length_eq_zero_iff
  have hwa:wantA args d↔nn5=true/\l6=0/\d.name∉args.map Argm.name:=by rw [wantA,hnn,hl6]
  have key:∀ (w':World) (b':Bool),SSt (fun b=>b=ob) w w'->Blk w' ob 4 [.bool b']->(b'=true↔b=true∨wantA args d)->K w':=by
   intro w' b' s B hb';refine hK w' ?_;rw [a_a i0 (by omega)];refine next i0 hlt ⟨s,b',B,hb'.trans ?_⟩
   rw [hb,take_snoc' i0 hd,or_assoc];refine or_congr_right ?_;simp only [ma_,List.mem_singleton];constructor
   ·rintro (⟨x,hx,h⟩|h)
    ·exact ⟨x,.inl hx,h⟩
    ·exact ⟨d,.inr rfl,h⟩
   ·rintro ⟨x,hx|rfl,h⟩
    ·exact .inl ⟨x,hx,h⟩
    ·exact .inr h
  refine ⟨p,hp,⟨i0,hlt⟩,_,g0.cell,_,g1.cell,_,g2.cell,_,_,_,g3.cell,_,g4.cell,_,_,_,g5.cell,_,_,_,g6.cell,trivial,trivial,fun w20 e20=>?_⟩;have x20:EF w1 w20:=by rw [e20];exact ((Ext.refl w1).alloc _).drew
  clear e20;have B20:=B1.ext x20 id;have s20:=hx.trans (SSt.of0 x20);have off:∀ w',Blk w' ob 4 [.bool b]->∃ (cs:Array Value) (T:TypeId),objAt w' ob=some (.cells cs T (0,0))/\(none:Option Nat)=none/\0+1<=cs.size/\(Nat.beq 125 T||false)=false:=fun w' B=>B.off (j:=0) (n:=1) (q:=fun T=>(Nat.beq 125 T||false)) (by simp) rfl;have put:∀ (w':World) (b':Bool),EF w20 w'->(b'=true↔b=true∨wantA args d)->K (w'.setCell (adr ob) (.bool b')):=fun w' b' x' h=>
   key _ b' ((s20.trans (SSt.of0 x')).trans (SSt.bool (B20.ext x' id) hDB (Ext.setCell (X:=fun b=>b=ob) (Ext.refl _) (a:=⟨ob,0,none⟩) (.inl rfl) _))) ((B20.ext x' id).set 0 _) h
  refine ⟨b,(B20.at (j:=0) rfl).cell,fun hb1=>⟨off _ B20,trivial,trivial,put w20 true (Ext.refl _) (by simp [hb1])⟩,fun hb0=>⟨fun hn1=>⟨fun hl0=>?_,fun hl0=>⟨off _ B20,trivial,trivial,put w20 false (Ext.refl _) ?_⟩⟩,fun hn0=>⟨off _ B20,trivial,trivial,put w20 false (Ext.refl _) ?_⟩⟩⟩
  ·refine (u_L (h1.keep s20.keep)).mono ?_;rintro _ w24 ⟨A,L,C,rfl,x24,hn⟩;refine ⟨A,L,C,rfl,⟨x24.keepT _,trivial⟩,⟨rfl,trivial⟩,?_⟩;refine (c_in d.name hn).mono ?_;rintro _ w27 ⟨b28,rfl,x27,h28⟩;have z27:=x24.then x27;have hl0:l6=0:=by simpa using hl0
   refine ⟨b28,rfl,⟨x27.keepT _,trivial⟩,trivial,off _ (B20.ext z27 id),trivial,trivial,put w27 (!b28) z27 ?_⟩;rw [hwa,<- h28];cases b28<;>simp [hb0,hn1,hl0]
  ·have hl0:l6≠0:=by simpa using hl0
   rw [hwa];simp [hb0,hl0]
  ·rw [hwa];simp [hb0,hn0]
 ·have hle:=odf hge;rw [tl_ (by omega)] at hb;refine ⟨rfl,hx,b,B1,hb.trans ?_⟩;simp only [ma_,List.mem_singleton];constructor
  ·rintro (⟨x,hx,h⟩|h)
   ·exact ⟨x,.inl hx,h⟩
   ·exact ⟨_,.inr rfl,h⟩
  ·rintro ⟨x,hx|rfl,h⟩
   ·exact .inl ⟨x,hx,h⟩
   ·exact .inr h
section
variable {k:Nat} {A4:OA} {L4 C4:Nat} {A:OA} {L C:Nat} {A3:OA} {L3 C3:Nat} {types:List Def}
theorem u_F {roots:List RootD}{dirs:List DirDef}{a:OA}{l c:Nat}{a':OA}{l' c':Nat}{ops:List OpD}{frags:List Frag}{w:World}(hDB:DB.B<=w.heap.size)(hB:Blk w k 79 [.slice A4 L4 C4,.slice A L C,.slice A3 L3 C3])(hT:RDefs w A4 L4 C4 types)(hR:b_w w A L C roots)(hD:a_Y w A3 L3 C3 dirs)(few:dirs.length<=12)(hl:ROps w a l c ops)(hl':a_X w a' l' c' frags)(ok1:∀ x∈ops,okOp x)(ok2:∀ x∈frags,b_j x)(hs:docW ops frags<=2097152):
  CP 39 #[.pointer (some (adr k)),.agg #[.slice a l c,.slice a' l' c']] w (RetB w fun b=>b=true↔∃ x∈asks types dirs roots ops frags,wantL x):=by
 have x5:EF w (w.alloc (.cells #[.slice a l c,.slice a' l' c'] 30)):=(Ext.refl w).alloc _;refine u_G (some (adr k)) a l c a' l' c' w _ ⟨trivial,?_⟩;show True/\_;generalize w.alloc (.cells #[.slice a l c,.slice a' l' c'] 30)=w5 at *;have B6:Blk (w5.alloc (.cells #[.bool false] 4)) w5.heap.size 4 [.bool false]:=Blk.made w5 4 [.bool false];have x6:EF w5 (w5.alloc (.cells #[.bool false] 4)):=(Ext.refl w5).alloc _;refine ⟨trivial,?_⟩;show (∃ _,_)/\_;generalize w5.alloc (.cells #[.bool false] 4)=w6 at *;refine ⟨B6.off (j:=0) (n:=1) (q:=fun T=>(Nat.beq 30 T||false)) (by simp) rfl,trivial,?_⟩;have B7:Blk (w6.setCell (adr w5.heap.size) (.bool false)) w5.heap.size 4 [.bool false]:=B6.set 0 (.bool false);have x7:EF w5 (w6.setCell (adr w5.heap.size) (.bool false)):=Ext.setCell x6 (a:=⟨w5.heap.size,0,none⟩) (.inr (Nat.le_refl _)) _;generalize w6.setCell (adr w5.heap.size) (.bool false)=w7 at *;have y7:=x5.then x7;have hz5:=x5.size;have hz7:=y7.size;have hlt7:=B7.lt;have hk:=hB.lt;refine (q_d (X:=fun b=>b=w5.heap.size) (P:=PAw w5.heap.size) (lt_ hDB hz7) (fun b (hb:b=w5.heap.size)=>by omega) (by show ¬ k=w5.heap.size;omega) (u_T (by omega)) (hB.ext y7 id) (hT.keep y7.keep) (hR.keep y7.keep) (hD.keep y7.keep) few (hl.keep y7.keep) (hl'.keep y7.keep) ok1 ok2 hs ⟨false,B7,by simp⟩).mono ?_;rintro _ w10 ⟨rfl,s10,b,B10,hb⟩;refine ⟨rfl,⟨s10.kt _ (by decide),trivial⟩,b,(B10.at (j:=0) rfl).cell,b,rfl,y7.trans s10.ext fun k' hk' e=>?_,hb⟩;have e:k'=w5.heap.size:=e;omega
end
def q_P:Sel->List Argm
 | .mk _ _ _ _ args _ _=>args
def badAt (c:WCtx):Ev->Prop
 | .fld s pd=>∃ f,fldD pd (o_J s)=some f/\wantL (q_P s,f.args)
 | .dir d _=>∃ f,lastN DirDef.name c.dirs d.name=some f/\wantL (d.args,f.args)
 | _=>False
theorem ex_take' {α:Type}{P:α->Prop}{xs:List α}{i:Int}{x:α}(h0:0<=i)(hx:xs[i.toNat]? =some x):(∃ y∈xs.take (i+1).toNat,P y)↔(∃ y∈xs.take i.toNat,P y)∨P x:=by
 rw [show (i+1).toNat=i.toNat+1 by omega,List.take_add_one,hx];exact i_p
theorem r_p {S:Nat->Prop}{w:World}{l:List Val}{q:OA}(h:f_Q S w l q):q=none↔l=[]:=by
 cases l with
 | nil=>exact ⟨fun _=>rfl,fun _=>h⟩
 | cons v vs=>
  obtain ⟨b,rfl,-⟩:=h;simp
section
variable {c:WCtx} {ae cnt:Nat} {bad:Ev->Prop} {l:List Ev} {w:World} {cx:Option OpD} {co:OA} {vm:Nat} {evs:List Value} {node:Value} {ev:Ev}
theorem u_U (hVM:∀ b,b=cnt∨b=ae->¬ c.M b)(hbad:∀ e,bad e↔badAt c e)(hne:ae≠cnt)(htw:∀ (n:BA) (pd:Option Def) (f:Fld),fldD pd n=some f->(∀ d,pd=some d->d∈c.types)->∀ y∈f.args,typW y.t<=2097152)(hc:StK bad ae cnt l w)(hw:Wst c cx co vm evs w)(hk:slot ev=1)(hn:f_i c cx w node ev):
  CP 146 #[.pointer (some (adr c.wb)),node,.pointer (some (adr ae))] w fun e w'=>e=.returned (.tuple #[])/\Ext (fun b=>b=cnt∨b=ae) w w'/\StK bad ae cnt (l++[ev]) w':=by
 cases ev with
 | fld s pd=>
  obtain ⟨b,q,q8,rfl,hp,hq,hF,-, -, hpd⟩:=hn;obtain ⟨k,al,n,on,args,dirs,kids⟩:=s;simp only [PSel] at hp;rcases hp with ⟨-, b',A1,L1,C1,A2,L2,C2,A3,L3,C3,pos,he,hM,hB,hA,-⟩|⟨-, b',_,_,_,pos,he,-⟩|⟨-, b',_,_,_,_,_,_,pos,he,-⟩
  ·obtain rfl:b=b':=by
    have:=he;simp only [Value.iface.injEq,Value.pointer.injEq,Option.some.injEq,true_and] at this;exact congrArg Addr.block this
   have hF:FldAt c w (fldD pd n) q:=hF;have hB1:bad (.fld (.mk k al n on args dirs kids) pd)↔∃ f,fldD pd n=some f/\wantL (args,f.args):=hbad _;refine u_y (some (adr c.wb)) (some (adr b)) (adr ae) w _ ⟨adr b,rfl,q,hq,fun h7=>?_,fun h7=>?_⟩
   ·have hb:¬ bad (.fld (.mk k al n on args dirs kids) pd):=fun hb=>by
     obtain ⟨f,hf,-⟩:=hB1.1 hb;rw [hf] at hF;obtain ⟨fb,A,L,C,tb,rfl,-⟩:=hF;cases h7
    exact ⟨rfl,Ext.refl w,InK.stop (InK.start hc hb) (by omega) (iff_of_false hb hb)⟩
   ·cases hfd:fldD pd n with
    | none=>
     rw [hfd] at hF;rw [show q=none from hF] at h7;cases h7
    | some f=>
     rw [hfd] at hF;obtain ⟨fb,A,L,C,tb,rfl,h2,hds,hoa,-⟩:=hF;have hty:=htw n pd f hfd hpd;have hL:=hds.1;have hL2:=hds.2.2.1;have hA1:=hA.1;have hA2:=hA.2.2.1;refine ⟨adr b,rfl,_,hq,adr fb,rfl,A,L,C,h2,fun i w1=>0<=i/\i<=L/\Ext (fun b=>b=cnt∨b=ae) w w1/\InK bad ae cnt l i.toNat (∃ d'∈f.args.take i.toNat,wantA args d') w1,fun i _=>((L:Int)-i).toNat,⟨by omega,by omega,Ext.refl w,InK.start hc (by simp)⟩,?_⟩;rintro i w1 ⟨h0,hi,hx,hin⟩;have k1:=hw.wk.trans (Wk.ofExt hx fun b hb e=>hVM b e hb);refine ⟨fun hlt=>fun K14 hK14=>?_,fun hge=>?_⟩
     ·have hlt:=odt hlt;obtain ⟨p,x,v,hpp,hxs,hcell,ab,rfl,hax⟩:=hds.wget k1 (fun _=>rfl) h0 hlt;obtain ⟨dq,tb2,A4,L4,C4,pos4,hMa,hBa,hdq,hpt,-⟩:=hax;have hxm:x∈f.args:=mg_ hxs;have key:∀ w',Ext (fun b=>b=cnt∨b=ae) w1 w'->InK bad ae cnt l (i+1).toNat (∃ d'∈f.args.take (i+1).toNat,wantA args d') w'->K14 w':=by
       intro w' x' c';refine hK14 w' ?_;rw [a_a h0 (by omega)];exact next h0 hlt ⟨hx.trans x' fun _ _ e=>e,c'⟩
      have pass:∀ w',EF w1 w'->¬ wantA args x->K14 w':=fun w' x' hno=>key w' (x'.toM _) (InK.good (Cnt.ext hin x' id id) (by omega) (by
       rw [ex_take' h0 hxs];exact ⟨.inl,fun k=>k.resolve_right hno⟩))
      obtain ⟨tn,tel,tnn,hxt⟩:∃ tn tel tnn,x.t=.mk tn tel tnn:=by
       cases x.t;exact ⟨_,_,_,rfl⟩
      have hpt':=hpt;rw [hxt] at hpt';simp only [PTyp] at hpt';obtain ⟨tq,tpos,hMt,hBt,-⟩:=hpt';have hmu:mustT x.t=tnn:=by rw [hxt];rfl
      have hdf:=r_p hdq;refine ⟨p,hpp,⟨h0,hlt⟩,some (adr ab),hcell,adr ab,rfl,some (adr tb2),k1.nd hMa hBa (j:=3) rfl rfl,adr tb2,rfl,tnn,k1.nd hMt hBt (j:=2) rfl rfl,fun hnn=>pass w1 (Ext.refl w1) fun hw'=>?_,fun hnn=>⟨adr ab,rfl,dq,k1.nd hMa hBa (j:=2) rfl rfl,fun hd=>pass w1 (Ext.refl w1) fun hw'=>?_,fun hd=>?_⟩⟩
      ·rw [<- hmu,hw'.1] at hnn;cases hnn
      ·rw [hdf.2 hw'.2.1] at hd;cases hd
      ·have hdq0:dq=none:=by simpa using hd
       have htn1:tnn=true:=by simpa using hnn
       refine ⟨adr b,rfl,A1,L1,C1,k1.nd hM hB (j:=2) rfl rfl,fun j w2=>0<=j/\j<=L1/\EF w1 w2/\x.name∉(args.take j.toNat).map Argm.name,fun j _=>((L1:Int)-j).toNat,⟨by omega,by omega,Ext.refl w1,by simp⟩,?_⟩;rintro j w2 ⟨j0,hj,hy,hno⟩;have k2:=k1.trans (Wk.ofExt hy fun _ _=>id);refine ⟨fun hjl=>?_,fun hjg=>fun w37 e37=>?_⟩
       ·have hjl:=odt hjl;obtain ⟨p2,a,v2,hp2,has,hcell2,gb,rfl,hga⟩:=hA.wget k2 (fun _=>rfl) j0 hjl;obtain ⟨vb,pos2,hM2,hB2,-⟩:=hga;refine ⟨p2,hp2,⟨j0,hjl⟩,some (adr gb),hcell2,fun w32 e32=>?_⟩;have x32:EF w2 w32:=by rw [e32];exact (Ext.refl w2).drew
        have y32:=hy.then x32;have k32:=k1.trans (Wk.ofExt y32 fun _ _=>id);refine ⟨adr gb,rfl,a.name,k32.nd hM2 hB2 (j:=0) rfl rfl,adr ab,rfl,x.name,k32.nd hMa hBa (j:=1) rfl rfl,fun he=>pass w32 y32 fun hw'=>?_,fun he=>?_⟩
        ·exact hw'.2.2 (mm_.2 ⟨a,mg_ has,a_b.1 he⟩)
        ·rw [a_a j0 (by omega)];refine next j0 hjl ⟨y32,?_⟩
         rw [take_snoc' j0 has];simp only [List.map_append,List.map_cons,List.map_nil,ma_,List.mem_singleton];rintro (h|h)
         ·exact hno h
         ·exact a_f.1 he h.symm
       ·have hjg:=odf hjg;rw [tl_ (by omega)] at hno;have hwant:wantA args x:=⟨hmu.trans htn1,hdf.1 hdq0,hno⟩;have x37:EF w2 w37:=by rw [e37];exact (Ext.refl w2).drew
        have y37:=hy.then x37;clear e37;have z37:Ext (fun b=>b=cnt∨b=ae) w w37:=hx.trans y37 fun _ _ e=>e.elim;have k37:=k1.trans (Wk.ofExt y37 fun _ _=>id);have c37:=Cnt.ext hin y37 id id;have a37:=k37.at (a:=⟨b,5,none⟩) hM (hB.at (j:=5) rfl) rfl;refine ⟨_,(c37.1.at (j:=0) rfl).cell,adr b,rfl,n,k37.nd hM hB (j:=1) rfl rfl,adr ab,rfl,x.name,k37.nd hMa hBa (j:=1) rfl rfl,adr ab,rfl,some (adr tb2),k37.nd hMa hBa (j:=3) rfl rfl,adr b,rfl,pos,a37.cell,?_⟩;refine (c_B x.t tb2 w37 k37 hpt (hoa x hxm).1 (hty x hxm)).mono ?_;rintro _ _ ⟨s49,rfl,-, rfl⟩;refine ⟨s49,rfl,trivial,⟨rfl,rfl,rfl,rfl,trivial⟩,trivial,?_⟩;refine tell c37 a37 hne ((Ext.refl _).alloc _) rfl fun w' x' c'=>key w' ((y37.toM _).trans x' fun _ _ e=>e) (InK.told c' (by omega) ?_);exact (ex_take' h0 hxs).2 (.inr hwant)
     ·have hle:=odf hge;rw [tl_ (by omega)] at hin;refine ⟨rfl,hx,InK.stop hin (by omega) ?_⟩;rw [hB1];constructor
      ·intro h;exact ⟨f,hfd,h⟩
      ·rintro ⟨f',hf',h⟩;rw [hfd] at hf';cases hf';exact h
  ·simp at he
  ·simp at he
 | _=>cases hk
theorem u_V (hb:Base c)(hVM:∀ b,b=cnt∨b=ae->¬ c.M b)(hbad:∀ e,bad e↔badAt c e)(hne:ae≠cnt)(htd:∀ x∈c.dirs,∀ y∈x.args,typW y.t<=2097152)(hc:StK bad ae cnt l w)(hw:Wst c cx co vm evs w)(hk:slot ev=5)(hn:f_i c cx w node ev):
  CP 148 #[.pointer (some (adr c.wb)),node,.pointer (some (adr ae))] w fun e w'=>e=.returned (.tuple #[])/\Ext (fun b=>b=cnt∨b=ae) w w'/\StK bad ae cnt (l++[ev]) w':=by
 cases ev with
 | dir d loc=>
  obtain ⟨b,q,rfl,hp,hq,hQ,-⟩:=hn;obtain ⟨A1,L1,C1,pos,hM,hB,hA,-⟩:=hp;have hB1:bad (.dir d loc)↔∃ f,lastN DirDef.name c.dirs d.name=some f/\wantL (d.args,f.args):=hbad _;refine u_z (some (adr c.wb)) (some (adr b)) (adr ae) w _ ⟨adr b,rfl,q,hq,fun h5=>?_,fun h5=>?_⟩
  ·have hb:¬ bad (.dir d loc):=fun hb=>by
    obtain ⟨f,hf,-⟩:=hB1.1 hb;rw [hQ.isNone.1 h5] at hf;cases hf
   exact ⟨rfl,Ext.refl w,InK.stop (InK.start hc hb) (by omega) (iff_of_false hb hb)⟩
  ·cases hfd:lastN DirDef.name c.dirs d.name with
   | none=>
    rw [hQ.isNone.2 hfd] at h5;cases h5
   | some f=>
    rw [hfd] at hQ;obtain ⟨fb,rfl,A,L,C,_,_,_,_,hfM,hfB,hds,-⟩:=hQ;have hoa:∀ y∈f.args,a_s y:=hb.okd f (g_m hfd);have hty:=htd f (g_m hfd);have hL:=hds.1;have hL2:=hds.2.2.1;have hA1:=hA.1;have hA2:=hA.2.2.1;refine ⟨adr b,rfl,_,hq,adr fb,rfl,A,L,C,hw.wk.nd hfM hfB (j:=2) rfl rfl,fun i w1=>0<=i/\i<=L/\Ext (fun b=>b=cnt∨b=ae) w w1/\InK bad ae cnt l i.toNat (∃ d'∈f.args.take i.toNat,wantA d.args d') w1,fun i _=>((L:Int)-i).toNat,⟨by omega,by omega,Ext.refl w,InK.start hc (by simp)⟩,?_⟩;rintro i w1 ⟨h0,hi,hx,hin⟩;have k1:=hw.wk.trans (Wk.ofExt hx fun b hb e=>hVM b e hb);refine ⟨fun hlt=>fun K14 hK14=>?_,fun hge=>?_⟩
    ·have hlt:=odt hlt;obtain ⟨p,x,v,hpp,hxs,hcell,ab,rfl,hax⟩:=hds.wget k1 (fun _=>rfl) h0 hlt;obtain ⟨dq,tb2,A4,L4,C4,pos4,hMa,hBa,hdq,hpt,-⟩:=hax;have hxm:x∈f.args:=mg_ hxs;have key:∀ w',Ext (fun b=>b=cnt∨b=ae) w1 w'->InK bad ae cnt l (i+1).toNat (∃ d'∈f.args.take (i+1).toNat,wantA d.args d') w'->K14 w':=by
      intro w' x' c';refine hK14 w' ?_;rw [a_a h0 (by omega)];exact next h0 hlt ⟨hx.trans x' fun _ _ e=>e,c'⟩
     have pass:∀ w',EF w1 w'->¬ wantA d.args x->K14 w':=fun w' x' hno=>key w' (x'.toM _) (InK.good (Cnt.ext hin x' id id) (by omega) (by
      rw [ex_take' h0 hxs];exact ⟨.inl,fun k=>k.resolve_right hno⟩))
     obtain ⟨tn,tel,tnn,hxt⟩:∃ tn tel tnn,x.t=.mk tn tel tnn:=by
      cases x.t;exact ⟨_,_,_,rfl⟩
     have hpt':=hpt;rw [hxt] at hpt';simp only [PTyp] at hpt';obtain ⟨tq,tpos,hMt,hBt,-⟩:=hpt';have hmu:mustT x.t=tnn:=by rw [hxt];rfl
     have hdf:=r_p hdq;refine ⟨p,hpp,⟨h0,hlt⟩,some (adr ab),hcell,adr ab,rfl,some (adr tb2),k1.nd hMa hBa (j:=3) rfl rfl,adr tb2,rfl,tnn,k1.nd hMt hBt (j:=2) rfl rfl,fun hnn=>pass w1 (Ext.refl w1) fun hw'=>?_,fun hnn=>⟨adr ab,rfl,dq,k1.nd hMa hBa (j:=2) rfl rfl,fun hd=>pass w1 (Ext.refl w1) fun hw'=>?_,fun hd=>?_⟩⟩
     ·rw [<- hmu,hw'.1] at hnn;cases hnn
     ·rw [hdf.2 hw'.2.1] at hd;cases hd
     ·have hdq0:dq=none:=by simpa using hd
      have htn1:tnn=true:=by simpa using hnn
      refine ⟨adr b,rfl,A1,L1,C1,k1.nd hM hB (j:=1) rfl rfl,fun j w2=>0<=j/\j<=L1/\EF w1 w2/\x.name∉(d.args.take j.toNat).map Argm.name,fun j _=>((L1:Int)-j).toNat,⟨by omega,by omega,Ext.refl w1,by simp⟩,?_⟩;rintro j w2 ⟨j0,hj,hy,hno⟩;have k2:=k1.trans (Wk.ofExt hy fun _ _=>id);refine ⟨fun hjl=>?_,fun hjg=>fun w37 e37=>?_⟩
      ·have hjl:=odt hjl;obtain ⟨p2,a,v2,hp2,has,hcell2,gb,rfl,hga⟩:=hA.wget k2 (fun _=>rfl) j0 hjl;obtain ⟨vb,pos2,hM2,hB2,-⟩:=hga;refine ⟨p2,hp2,⟨j0,hjl⟩,some (adr gb),hcell2,fun w32 e32=>?_⟩;have x32:EF w2 w32:=by rw [e32];exact (Ext.refl w2).drew
       have y32:=hy.then x32;have k32:=k1.trans (Wk.ofExt y32 fun _ _=>id);refine ⟨adr gb,rfl,a.name,k32.nd hM2 hB2 (j:=0) rfl rfl,adr ab,rfl,x.name,k32.nd hMa hBa (j:=1) rfl rfl,fun he=>pass w32 y32 fun hw'=>?_,fun he=>?_⟩
       ·exact hw'.2.2 (mm_.2 ⟨a,mg_ has,a_b.1 he⟩)
       ·rw [a_a j0 (by omega)];refine next j0 hjl ⟨y32,?_⟩
        rw [take_snoc' j0 has];simp only [List.map_append,List.map_cons,List.map_nil,ma_,List.mem_singleton];rintro (h|h)
        ·exact hno h
        ·exact a_f.1 he h.symm
      ·have hjg:=odf hjg;rw [tl_ (by omega)] at hno;have hwant:wantA d.args x:=⟨hmu.trans htn1,hdf.1 hdq0,hno⟩;have x37:EF w2 w37:=by rw [e37];exact (Ext.refl w2).drew
       have y37:=hy.then x37;clear e37;have z37:Ext (fun b=>b=cnt∨b=ae) w w37:=hx.trans y37 fun _ _ e=>e.elim;have k37:=k1.trans (Wk.ofExt y37 fun _ _=>id);have c37:=Cnt.ext hin y37 id id;have a37:=k37.at (a:=⟨b,2,none⟩) hM (hB.at (j:=2) rfl) rfl;refine ⟨_,(c37.1.at (j:=0) rfl).cell,adr b,rfl,_,(z37.cell_eq (a:=⟨b,4,none⟩) (fun e=>hVM _ e hM) hq).trans hq,adr fb,rfl,f.name,k37.nd hfM hfB (j:=1) rfl rfl,adr ab,rfl,x.name,k37.nd hMa hBa (j:=1) rfl rfl,adr ab,rfl,some (adr tb2),k37.nd hMa hBa (j:=3) rfl rfl,adr b,rfl,pos,a37.cell,?_⟩;refine (c_B x.t tb2 w37 k37 hpt (hoa x hxm).1 (hty x hxm)).mono ?_;rintro _ _ ⟨s49,rfl,-, rfl⟩;refine ⟨s49,rfl,trivial,⟨rfl,rfl,rfl,rfl,rfl,trivial⟩,trivial,?_⟩;refine tell c37 a37 hne ((Ext.refl _).alloc _) rfl fun w' x' c'=>key w' ((y37.toM _).trans x' fun _ _ e=>e) (InK.told c' (by omega) ?_);exact (ex_take' h0 hxs).2 (.inr hwant)
    ·have hle:=odf hge;rw [tl_ (by omega)] at hin;refine ⟨rfl,hx,InK.stop hin (by omega) ?_⟩;rw [hB1];constructor
     ·intro h;exact ⟨f,hfd,h⟩
     ·rintro ⟨f',hf',h⟩;rw [hfd] at hf';cases hf';exact h
 | _=>cases hk
end
end Go.VC
namespace Go.VC
open Go Go.Proofs
set_option maxRecDepth 100000
variable [DB]
theorem Base.look {c:WCtx}{cx:Option OpD}{co:OA}{vm:Nat}{evs:List Value}{w w':World}(hb:Base c)(hw:Wst c cx co vm evs w)(hx:EF w w'):w'.cell? ⟨c.wb,1,none⟩=some (.pointer (some (adr c.sb)))/\w'.cell? ⟨c.sb,4,none⟩=some (.map (some c.m1))/\
  ∀ u,∃ q,(Instr.lookup 214 (.map (some c.m1)) (.string u) false).run Tryz.prog w'=.ok (.pointer q) w'/\OptQ (PDef c.M c.w0) (lastN Def.name c.types u) q:=by
 obtain ⟨q1,q2,q3,s,hS,-⟩:=hb.sch;have hwk:=hw.wk.trans (Wk.ofExt hx fun _ _=>id);exact ⟨((hw.walker.ext hx id).at (j:=1) rfl).cell,hwk.nd hb.sb hS (j:=4) rfl rfl,fun u=>VC.tlook (hwk.smap hb.m1.1 hb.m1.2.1) hb.m1.2.2 u⟩
abbrev leafK (k:BA):Prop:=k=kEnum∨k=d_m
def g_n (c:WCtx)(pd:Option Def)(n:BA)(m:Nat):Prop:=∃ f d,fldD pd n=some f/\lastN Def.name c.types (a_w f.t)=some d/\((leafK d.kind/\0<m)∨(¬ leafK d.kind/\m=0))
def k_O (c:WCtx):Ev->Prop
 | .fld (.mk _ _ n _ _ _ kids) pd=>g_n c pd n kids.length
 | _=>False
def StL (bad:Ev->Prop)(ae cnt sg:Nat)(l:List Ev)(w:World):Prop:=StB bad ae cnt l w/\Blk w sg 4 [.bool false]
section
variable {c:WCtx} {ae cnt sg:Nat} {bad:Ev->Prop} {l:List Ev} {w:World} {cx:Option OpD} {co:OA} {vm:Nat} {evs:List Value} {node:Value} {ev:Ev}
end
mutual
def flS (tys:List Def):Option Def->Sel->List (Sel × Option Def)
 | pd,.mk k al n on args dirs kids=>if k=0 then (.mk k al n on args dirs kids,pd)::flL tys (nextD tys pd n) kids else if k=1 then [] else flL tys (inlD tys pd on) kids
def flL (tys:List Def):Option Def->List Sel->List (Sel × Option Def)
 | _,[]=>[]
 | pd,s::l=>flS tys pd s++flL tys pd l
end
section
variable {tys:List Def} {fs:List Frag} {cx:Option OpD}
theorem m_i {s:Sel}{pd':Option Def}:∀ (ks:List Sel) (pd:Option Def),Ev.fld s pd'∈evL tys fs cx pd ks↔(s,pd')∈flL tys pd ks
 | [],pd=>by simp [evL,flL]
 | .mk k al n on args dirs kids::l,pd=>by
  have ihl:=m_i (s:=s) (pd':=pd') l pd;have hA:Ev.fld s pd'∉b_B cx args:=fun h=>by have:=d_8 _ h;cases this
  have hD:∀ loc,Ev.fld s pd'∉evDs cx loc dirs:=fun loc h=>by have:=b_C _ h;simp [slot] at this
  have key:Ev.fld s pd'∈evS tys fs cx pd (.mk k al n on args dirs kids)↔(s,pd')∈flS tys pd (.mk k al n on args dirs kids):=by
   simp only [evS,flS];by_cases hk0:k=0
   ·have ih:=m_i (s:=s) (pd':=pd') kids (nextD tys pd n);rw [if_pos hk0,if_pos hk0,ma_,ma_,ma_,ih];simp [hA,hD,or_comm]
   ·by_cases hk1:k=1
    ·rw [if_neg hk0,if_pos hk1,if_neg hk0,if_pos hk1,ma_];simp [hD]
    ·have ih:=m_i (s:=s) (pd':=pd') kids (inlD tys pd on);rw [if_neg hk0,if_neg hk1,if_neg hk0,if_neg hk1,ma_,ma_,ih];simp [hD]
  simp only [evL,flL,ma_];rw [key,ihl]
theorem n_s {s:Sel}{pd':Option Def}{f:Frag}:Ev.fld s pd'∈evFr tys fs cx f↔(s,pd')∈flL tys (lastN Def.name tys f.on) f.kids:=by
 have hD:Ev.fld s pd'∉evDs cx d_z f.dirs:=fun h=>by have:=b_C _ h;simp [slot] at this
 unfold evFr;rw [ma_,m_i];simp [hD]
end
theorem o_T {c:WCtx}{x:OpD}{s:Sel}{pd':Option Def}:Ev.fld s pd'∈evOp c x↔(s,pd')∈flL c.types (rootT c x.kind) x.kids:=by
 have hV:Ev.fld s pd'∉f_j (some x) x.vars:=fun h=>by have:=g_e _ h;simp [slot] at this
 have hD:Ev.fld s pd'∉evDs (some x) (opLoc x.kind) x.dirs:=fun h=>by have:=b_C _ h;simp [slot] at this
 unfold evOp;rw [ma_,ma_,ma_,m_i];simp [hV,hD]
theorem k_j {c:WCtx}{s:Sel}{pd:Option Def}:DocEv c (.fld s pd)↔(∃ x∈c.ops,(s,pd)∈flL c.types (rootT c x.kind) x.kids)∨∃ f∈c.frags,(s,pd)∈flL c.types (lastN Def.name c.types f.on) f.kids:=by
 constructor
 ·rintro (⟨x,hx,h|⟨n,f,-, h1,h2⟩⟩|⟨f,hf,(h|⟨n,g,-, h1,h2⟩)|h⟩)
  ·exact .inl ⟨x,hx,o_T.1 h⟩
  ·exact .inr ⟨f,(a_U h1).1,n_s.1 h2⟩
  ·exact .inr ⟨f,hf,n_s.1 h⟩
  ·exact .inr ⟨g,(a_U h1).1,n_s.1 h2⟩
  ·cases h
 ·rintro (⟨x,hx,h⟩|⟨f,hf,h⟩)
  ·exact .inl ⟨x,hx,.inl (o_T.2 h)⟩
  ·exact .inr ⟨f,hf,.inl (.inl (n_s.2 h))⟩
theorem e_z {types:List Def}{u:BA}(h:(findD types u).2=false):(findD types u).1=noDef:=by
 unfold findD at h ⊢;split
 ·rename_i d hd;simp [hd] at h
 ·split
  ·rename_i h1 h2;simp [h1,h2] at h
  ·rfl
theorem k_Y {types:List Def}{u:BA}(h:(findD types u).2=true):(findD types u).1∈a_P++types:=by
 unfold findD at h ⊢;split
 ·rename_i d hd;exact ma_.2 (.inr (List.mem_of_find?_eq_some hd))
 ·split
  ·rename_i h2;exact ma_.2 (.inl (mm_.2 ⟨u,d_x.1 h2,rfl⟩))
  ·rename_i h1 h2;simp [h1,h2] at h
theorem baseName_eq':∀ t:Typ,a_n t=a_w t
 | .mk n [] nn=>rfl
 | .mk n (t::l) nn=>baseName_eq' t
def Rel (types:List Def)(u:BA)(pd:Option Def):Prop:=∀ n,n≠bTn->fldD pd n=b_e types u n/\∀ f,b_e types u n=some f->(findD types (a_n f.t)).1.kind≠E0/\(findD types (a_n f.t)).1.kind≠b_f
theorem o_U {pd:Option Def}{n:BA}(hn:n≠bTn):fldD pd n=pd.bind fun d=>a_h Fld.name d.fields n:=by rw [fldD,if_neg hn]
theorem o_I {types:List Def}{u:BA}{pd:Option Def}(h1:∀ d,pd=some d->d.fields=[])(h2:(findD types u).1=noDef):Rel types u pd:=fun n hn=>by
 have hS:b_e types u n=none:=by
  rw [b_e,if_neg fun k=>hn k.1,h2,if_neg];rintro (h|h)<;>exact absurd h (by decide)
 refine ⟨?_,fun f h=>by rw [hS] at h;cases h⟩;rw [hS,o_U hn];cases pd with
 | none=>rfl
 | some d=>
  show a_h Fld.name d.fields n=none;rw [h1 d rfl];rfl
section
variable {types:List Def} {dirs:List DirDef} {defs:List SchemaDef}
theorem j_O (hO:OkSchema types dirs defs){u:BA}(h:(findD types u).1.kind≠b_f):Rel types u (lastN Def.name (a_P++types) u):=by
 rw [c_N hO];cases hf:(findD types u).2 with
 | false=>exact o_I (fun d hd=>by simp at hd) (e_z hf)
 | true=>
  intro n hn;have hd:b_e types u n=if (findD types u).1.kind=a_V∨(findD types u).1.kind=b_i then a_h Fld.name (findD types u).1.fields n else none:=by rw [b_e,if_neg fun k=>hn k.1]
  rw [if_pos rfl,o_U hn];have hm:=k_Y hf;generalize (findD types u).1=d at *;show a_h Fld.name d.fields n=_/\_;by_cases hk:d.kind=a_V∨d.kind=b_i
  ·rw [if_pos hk] at hd;refine ⟨hd.symm,fun f hf=>?_⟩;rw [hd] at hf;have hfm:=(a_U hf).1;rcases ma_.1 hm with hm|hm
   ·obtain ⟨s,-, rfl⟩:=mm_.1 hm;simp [a_A] at hfm
   ·exact ((hO.simple d hm).2.1 f hfm).2.2.2.2.2 h
  ·rw [if_neg hk] at hd;have hfl:d.fields=[]:=by
    rcases ((k_I (roots:=[]) hO).2.1 d hm).2.2.2.2 with k|k|k|k
    ·exact k
    ·exact (hk (.inl k)).elim
    ·exact (hk (.inr k)).elim
    ·exact absurd k h
   refine ⟨by rw [hd,hfl];rfl,fun f hf=>by rw [hd] at hf;cases hf⟩
theorem p_i {tys:List Def}{pd:Option Def}{al n on:BA}{args:List Argm}{ds:List Dir}{kids:List Sel}:flS tys pd (.mk 0 al n on args ds kids)=(.mk 0 al n on args ds kids,pd)::flL tys (nextD tys pd n) kids:=by
 rw [flS,if_pos rfl]
theorem p_j {tys:List Def}{pd:Option Def}{k:Int}{al n on:BA}{args:List Argm}{ds:List Dir}{kids:List Sel}(h:k=1):flS tys pd (.mk k al n on args ds kids)=[]:=by
 rw [flS,if_neg (by omega),if_pos h]
theorem p_k {tys:List Def}{pd:Option Def}{k:Int}{al n on:BA}{args:List Argm}{ds:List Dir}{kids:List Sel}(h:k≠0)(h1:k≠1):flS tys pd (.mk k al n on args ds kids)=flL tys (inlD tys pd on) kids:=by
 rw [flS,if_neg h,if_neg h1]
theorem o_N {types:List Def}{u:BA}{k:Int}{al n on:BA}{args:List Argm}{ds:List Dir}{kids:List Sel}:atS types u (.mk k al n on args ds kids)=(.mk k al n on args ds kids,u)::atL types (downS types u k n on) kids:=by rw [atS]
def walkB (c:WCtx)(x:Sel × Option Def):Prop:=k_O c (.fld x.1 x.2)
end
abbrev leafD (types:List Def)(roots:List RootD)(ops:List OpD)(frags:List Frag):Prop:=∃ x∈atAll types roots ops frags,badLf types x
end Go.VC
namespace Go.VC
open Go Go.Proofs
set_option maxRecDepth 100000
set_option maxRecDepth 100000
variable [DB]
def dirE (u:List Dir × BA)(e:Ev):Prop:=e=.dirs u.1∨∃ d∈u.1,e=.dir d u.2
section
variable {tys:List Def} {fs:List Frag} {cx:Option OpD} {e:Ev}
theorem p_6 {loc:BA}{ds:List Dir}(he:slot e=5∨slot e=6):e∈evDs cx loc ds↔dirE (ds,loc) e:=by
 unfold evDs dirE;rw [ma_,mf_];constructor
 ·rintro (⟨d,hd,h⟩|h)
  ·rcases ma_.1 h with h|h
   ·have:=d_8 e h;omega
   ·exact .inr ⟨d,hd,by simpa using h⟩
  ·exact .inl (by simpa using h)
 ·rintro (rfl|⟨d,hd,rfl⟩)
  ·exact .inr (by simp)
  ·exact .inl ⟨d,hd,ma_.2 (.inr (by simp))⟩
theorem q_i (he:slot e=5∨slot e=6):∀ (ks:List Sel) (pd:Option Def),a_z ks->(e∈evL tys fs cx pd ks↔∃ u∈usL ks,dirE u e)
 | [],pd,_=>by simp [evL,usL]
 | .mk k al n on args dirs kids::l,pd,ok=>by
  simp only [a_z,okSel] at ok;have ihl:=q_i he l pd ok.2;have hA:e∉b_B cx args:=fun h=>by have:=d_8 e h;omega
  have hD:∀ loc,e∈evDs cx loc dirs↔dirE (dirs,loc) e:=fun loc=>p_6 he;have hF:∀ s pd',e≠ .fld s pd':=fun s pd' h=>by subst h;simp [slot] at he
  have hI:∀ s pd',e≠ .inl s pd':=fun s pd' h=>by subst h;simp [slot] at he
  have hS:∀ n b pd',e≠ .spread n b pd':=fun n b pd' h=>by subst h;simp [slot] at he
  have key:e∈evS tys fs cx pd (.mk k al n on args dirs kids)↔∃ u∈usS (.mk k al n on args dirs kids),dirE u e:=by
   simp only [evS,usS,mc_,exists_eq_or_imp];by_cases hk0:k=0
   ·have ih:=q_i he kids (nextD tys pd n) ok.1.2.2.2.1;rw [if_pos hk0,p_W,if_pos hk0,ma_,ma_,ma_,hD,ih];simp [hA,hF]
   ·by_cases hk1:k=1
    ·have hkk:=(ok.1.2.2.2.2.1 hk1).2;subst hkk;rw [if_neg hk0,if_pos hk1,p_W,if_neg hk0,if_pos hk1,ma_,hD];simp [hS,usL]
    ·have ih:=q_i he kids (inlD tys pd on) ok.1.2.2.2.1;rw [if_neg hk0,if_neg hk1,p_W,if_neg hk0,if_neg hk1,ma_,ma_,hD,ih];simp [hI]
  simp only [evL,usL,ma_];rw [key,ihl];constructor
  ·rintro (⟨u,hu,h⟩|⟨u,hu,h⟩)
   ·exact ⟨u,.inl hu,h⟩
   ·exact ⟨u,.inr hu,h⟩
  ·rintro ⟨u,hu|hu,h⟩
   ·exact .inl ⟨u,hu,h⟩
   ·exact .inr ⟨u,hu,h⟩
theorem q_o (he:slot e=5∨slot e=6){f:Frag}(ok:b_j f):e∈evFr tys fs cx f↔∃ u∈usF f,dirE u e:=by
 unfold evFr usF;rw [ma_,p_6 he,q_i he _ _ ok.2.1];simp
end
theorem q_L {k:BA}(h:n_X k):spLoc k=opLoc k:=by
 rcases h with rfl|rfl|rfl<;>decide
theorem q_D {c:WCtx}{x:OpD}{e:Ev}(he:slot e=5∨slot e=6)(ok:okOp x):e∈evOp c x↔∃ u∈usO x,dirE u e:=by
 have hV:e∈f_j (some x) x.vars↔∃ v∈x.vars,dirE (v.dirs,d_Y) e:=by
  unfold f_j;rw [ma_,mf_];constructor
  ·rintro (h|⟨v,hv,h⟩)
   ·obtain ⟨v,-, rfl⟩:=mm_.1 h;simp [slot] at he
   ·rcases ma_.1 h with h|h
    ·have:=l_C e h;omega
    ·exact ⟨v,hv,(p_6 he).1 h⟩
  ·rintro ⟨v,hv,h⟩;exact .inr ⟨v,hv,ma_.2 (.inr ((p_6 he).2 h))⟩
 have hO:e∉[Ev.op x]:=fun h=>by
  obtain rfl:e=.op x:=by simpa using h
  simp [slot] at he
 unfold evOp usO;rw [ma_,ma_,ma_,hV,p_6 he,q_i he _ _ ok.2.2.2,q_L ok.1];constructor
 ·rintro (⟨v,hv,h⟩|h|⟨u,hu,h⟩|h)
  ·exact ⟨_,by simp only [ma_,mm_];exact .inl (.inr ⟨v,hv,rfl⟩),h⟩
  ·exact ⟨_,by simp,h⟩
  ·exact ⟨u,by simp [hu],h⟩
  ·exact absurd h hO
 ·rintro ⟨u,hu,h⟩;simp only [ma_,mm_,List.mem_singleton] at hu;rcases hu with (rfl|⟨v,hv,rfl⟩)|hu
  ·exact .inr (.inl h)
  ·exact .inl ⟨v,hv,h⟩
  ·exact .inr (.inr (.inl ⟨u,hu,h⟩))
theorem q_w {c:WCtx}{e:Ev}(he:slot e=5∨slot e=6)(ok1:∀ x∈c.ops,okOp x)(ok2:∀ x∈c.frags,b_j x):DocEv c e↔∃ u∈usesD c.ops c.frags,dirE u e:=by
 have hf:∀ n f,a_h Frag.name c.frags n=some f->∀ cx,e∈evFr c.types c.frags cx f->∃ u∈usesD c.ops c.frags,dirE u e:=fun n f h cx k=>by
  have hm:=(a_U h).1;obtain ⟨u,hu,hd⟩:=(q_o he (ok2 f hm)).1 k;exact ⟨u,ma_.2 (.inr (mf_.2 ⟨f,hm,hu⟩)),hd⟩
 constructor
 ·rintro (⟨x,hx,h|⟨n,f,-, h1,h2⟩⟩|⟨f,hfm,(h|⟨n,g,-, h1,h2⟩)|rfl⟩)
  ·obtain ⟨u,hu,hd⟩:=(q_D he (ok1 x hx)).1 h;exact ⟨u,ma_.2 (.inl (mf_.2 ⟨x,hx,hu⟩)),hd⟩
  ·exact hf n f h1 _ h2
  ·obtain ⟨u,hu,hd⟩:=(q_o he (ok2 f hfm)).1 h;exact ⟨u,ma_.2 (.inr (mf_.2 ⟨f,hfm,hu⟩)),hd⟩
  ·exact hf n g h1 _ h2
  ·simp [slot] at he
 ·rintro ⟨u,hu,hd⟩;rcases ma_.1 hu with hu|hu
  ·obtain ⟨x,hx,hu⟩:=mf_.1 hu;exact .inl ⟨x,hx,.inl ((q_D he (ok1 x hx)).2 ⟨u,hu,hd⟩)⟩
  ·obtain ⟨f,hfm,hu⟩:=mf_.1 hu;exact .inr ⟨f,hfm,.inl (.inl ((q_o he (ok2 f hfm)).2 ⟨u,hu,hd⟩))⟩
theorem q_r {α:Type}{nm:α->BA}{l:List α}(h:(l.map nm).Nodup)(k:BA):lastN nm l k=a_h nm l k:=by
 cases hf:a_h nm l k with
 | none=>
  unfold lastN;have:(l.filter fun d=>decide (nm d=k))=[]:=by
   rw [List.filter_eq_nil_iff];intro x hx he;have:=List.find?_eq_none.1 hf x hx;exact this he
  rw [this];rfl
 | some x=>
  obtain ⟨hx,hk⟩:=a_U hf;cases hl:lastN nm l k with
  | none=>
   unfold lastN at hl;have:x∈(l.filter fun d=>decide (nm d=k)):=List.mem_filter.2 ⟨hx,by simpa using hk⟩;rw [List.getLast?_eq_none_iff.1 hl] at this;simp at this
  | some y=>
   have hy:=List.mem_of_getLast? hl;obtain ⟨hy1,hy2⟩:=List.mem_filter.1 hy;rw [p_X h hy1 hx (by rw [hk];simpa using hy2)]
theorem q_M {types:List Def}{dirs:List DirDef}{defs:List SchemaDef}(h:OkSchema types dirs defs)(n:BA):lastN DirDef.name (d_s++dirs) n=dirS dirs n:=by
 refine q_r ?_ n;rw [List.map_append,List.nodup_append];refine ⟨by decide,h.marks.1,fun a ha b hb e=>?_⟩;subst e;obtain ⟨d,hd,rfl⟩:=mm_.1 hb;refine (h.okdirs d hd).1 ?_;simp only [d_s,List.map_cons,List.map_nil,mc_,nn_,or_false] at ha;rcases ha with e|e|e|e
 ·rw [e];exact .tail _ (.head _)
 ·rw [e];exact .head _
 ·rw [e];exact .tail _ (.tail _ (.head _))
 ·rw [e];exact .tail _ (.tail _ (.tail _ (.head _)))
def twD (c:WCtx)(l:List Dir)(j:Nat):Prop:=∃ x,l[j]? =some x/\(∀ f,lastN DirDef.name c.dirs x.name=some f->f.rep=false)/\x.name∈(l.take j).map Dir.name
def badDt (c:WCtx):Ev->Prop
 | .dirs l=>∃ j,twD c l j
 | _=>False
section
variable {c:WCtx} {ae cnt:Nat} {bad:Ev->Prop} {l:List Ev} {w:World} {cx:Option OpD} {co:OA} {vm:Nat} {evs:List Value} {node:Value} {ev:Ev}
end
abbrev unkD (dirs:List DirDef)(ops:List OpD)(frags:List Frag):Prop:=∃ u∈usesD ops frags,∃ d∈u.1,dirS dirs d.name=none
abbrev q_2 (dirs:List DirDef)(ops:List OpD)(frags:List Frag):Prop:=∃ u∈usesD ops frags,¬ (nz (onceN dirs u.1)).Nodup
theorem p_D {k:BA}(h:compK k):k≠b_f:=fun e=>by
 rcases h with h|h|h<;>rw [e] at h<;>exact absurd h (by decide)
section
variable {types:List Def} {dirs:List DirDef} {defs:List SchemaDef}
def u_H (types:List Def)(x:Sel × BA):Prop:=match x.1 with
 | .mk k _ n _ args _ _=>k=0/\(b_K types x.2 n).2=true/\wantL (args,(b_K types x.2 n).1.args)
theorem q_u (x:Sel × BA):(∃ y∈askF types x,wantL y)↔u_H types x:=by
 obtain ⟨⟨k,al,n,on,args,ds,kids⟩,u⟩:=x;show (∃ y∈(if k=0/\(b_K types u n).2=true then [(args,(b_K types u n).1.args)] else []),wantL y)↔k=0/\(b_K types u n).2=true/\wantL (args,(b_K types u n).1.args);by_cases h:k=0/\(b_K types u n).2=true
 ·rw [if_pos h];simp [h.1,h.2]
 ·rw [if_neg h];exact ⟨fun ⟨_,h,_⟩=>by simp at h,fun k=>(h ⟨k.1,k.2.1⟩).elim⟩
def u_K (c:WCtx)(x:Sel × Option Def):Prop:=badAt c (.fld x.1 x.2)
theorem u_S {u:BA}{pd:Option Def}(hR:Rel types u pd)(n:BA)(args:List Argm):(∃ f,fldD pd n=some f/\wantL (args,f.args))↔(b_K types u n).2=true/\wantL (args,(b_K types u n).1.args):=by
 by_cases hn:n=bTn
 ·subst hn;constructor
  ·rintro ⟨f,h,d,hd,-⟩;rw [fldD,if_pos rfl] at h;cases h;exact absurd (show d∈([]:List ArgDef) from hd) nn_
  ·rintro ⟨h,d,hd,-⟩;by_cases hc:compK (findD types u).1.kind
   ·rw [b_P (show b_e types u bTn=some (tnFld bTn) by rw [b_e,if_pos ⟨rfl,hc⟩])] at hd;exact absurd (show d∈([]:List ArgDef) from hd) nn_
   ·rw [c_f (show b_e types u bTn=none by
     rw [b_e,if_neg fun k=>hc k.2,if_neg fun k=>hc (k.imp id .inl)])] at h
    cases h
 ·have hE:=(hR n hn).1;constructor
  ·rintro ⟨f,h,hw⟩;rw [b_P (hE.symm.trans h)];exact ⟨rfl,hw⟩
  ·rintro ⟨h,hw⟩;cases hS:b_e types u n with
   | none=>rw [c_f hS] at h;cases h
   | some f=>
    rw [b_P hS] at hw;exact ⟨f,hE.trans hS,hw⟩
theorem u_J (hO:OkSchema types dirs defs){c:WCtx}(ht:c.types=a_P++types):∀ (ks:List Sel) (u:BA) (pd:Option Def),a_z ks->Rel types u pd->(∀ n∈condL ks,compK (findD types n).1.kind)->(∀ x∈atL types u ks,¬ badLf types x)->((∃ x∈flL c.types pd ks,u_K c x)↔∃ x∈atL types u ks,u_H types x)
 | [],u,pd,_,_,_,_=>by simp [flL,atL]
 | .mk k al n on args dirs' kids::l,u,pd,ok,hR,hC,hL=>by
  simp only [a_z,okSel] at ok;have hCl:∀ n∈condL l,compK (findD types n).1.kind:=fun m hm=>hC m (by simp only [condL,ma_];exact .inr hm);have hLl:∀ x∈atL types u l,¬ badLf types x:=fun x hx=>hL x (by simp only [atL,ma_];exact .inr hx);have ihl:=u_J hO ht l u pd ok.2 hR hCl hLl;have hCk:∀ n∈condL kids,compK (findD types n).1.kind:=fun m hm=>hC m (by
   simp only [condL,condS,ma_];exact .inl (.inr hm))
  have hLk:∀ x∈atL types (downS types u k n on) kids,¬ badLf types x:=fun x hx=>hL x (by
   simp only [atL,ma_];rw [o_N];exact .inl (List.mem_cons_of_mem _ hx))
  have hown:¬ badLf types (.mk k al n on args dirs' kids,u):=hL _ (by
   simp only [atL,ma_];rw [o_N];exact .inl (by simp))
  have key:(∃ x∈flS c.types pd (.mk k al n on args dirs' kids),u_K c x)↔∃ x∈atS types u (.mk k al n on args dirs' kids),u_H types x:=by
   rw [o_N];by_cases hk0:k=0
   ·subst hk0;have hkids:(∃ x∈flL c.types (nextD c.types pd n) kids,u_K c x)↔∃ x∈atL types (downS types u 0 n on) kids,u_H types x:=by
     cases hkk:kids with
     | nil=>simp [flL,atL]
     | cons s0 r0=>
      rw [<- hkk];have hm:0<kids.length:=by rw [hkk];simp
      have hn:n≠bTn:=fun e=>hown (.inr ⟨rfl,e,hm⟩);obtain ⟨hE,hK⟩:=hR n hn;have hd:downS types u 0 n on=a_n (b_K types u n).1.t:=by rw [downS,if_pos rfl]
      have hx:nextD c.types pd n=(b_e types u n).bind fun f=>lastN Def.name c.types (a_w f.t):=by rw [nextD,hE]
      have hRC:Rel types (downS types u 0 n on) (nextD c.types pd n):=by
       rw [hd,hx];cases hS:b_e types u n with
       | none=>
        rw [c_f hS];exact o_I (fun d hd=>by cases hd) (e_z (m_h hO))
       | some f=>
        rw [b_P hS];show Rel types (a_n f.t) (lastN Def.name c.types (a_w f.t));rw [ht,<- baseName_eq'];exact j_O hO (hK f hS).2
      exact u_J hO ht kids _ _ ok.1.2.2.2.1 hRC hCk hLk
    rw [p_i];simp only [mc_,exists_eq_or_imp];rw [hkids];refine or_congr_left ?_;exact (u_S hR n args).trans ⟨fun h=>⟨rfl,h⟩,fun h=>h.2⟩
   ·have hno:¬ u_H types (.mk k al n on args dirs' kids,u):=fun h=>hk0 h.1;simp only [mc_,exists_eq_or_imp,hno,false_or];by_cases hk1:k=1
    ·have hkk:=(ok.1.2.2.2.2.1 hk1).2;subst hkk;rw [p_j hk1];simp [atL]
    ·rw [p_k hk0 hk1];have hk2:k=2:=by omega
     have hd:downS types u k n on=if on=E0 then u else on:=by rw [downS,if_neg hk0]
     have hRC:Rel types (downS types u k n on) (inlD c.types pd on):=by
      rw [hd,inlD];by_cases ho:on=E0
      ·rw [if_pos ho,if_pos ho];exact hR
      ·have hc:=hC on (by
        simp only [condL,condS,ma_];exact .inl (.inl (by rw [if_pos ⟨hk2,ho⟩];simp)))
       rw [if_neg ho,if_neg ho,ht];exact j_O hO (p_D hc)
     exact u_J hO ht kids _ _ ok.1.2.2.2.1 hRC hCk hLk
  simp only [flL,atL,ma_];constructor
  ·rintro ⟨x,hx|hx,h⟩
   ·obtain ⟨y,hy,h⟩:=key.1 ⟨x,hx,h⟩;exact ⟨y,.inl hy,h⟩
   ·obtain ⟨y,hy,h⟩:=ihl.1 ⟨x,hx,h⟩;exact ⟨y,.inr hy,h⟩
  ·rintro ⟨x,hx|hx,h⟩
   ·obtain ⟨y,hy,h⟩:=key.2 ⟨x,hx,h⟩;exact ⟨y,.inl hy,h⟩
   ·obtain ⟨y,hy,h⟩:=ihl.2 ⟨x,hx,h⟩;exact ⟨y,.inr hy,h⟩
end
theorem u_O {types:List Def}{dirs:List DirDef}{defs:List SchemaDef}(hO:OkSchema types dirs defs){c:WCtx}(hd:c.dirs=d_s++dirs)(d:Dir)(loc:BA):badAt c (.dir d loc)↔∃ y∈askD dirs d,wantL y:=by
 show (∃ f,lastN DirDef.name c.dirs d.name=some f/\wantL (d.args,f.args))↔_;rw [hd,q_M hO];unfold askD;cases h:dirS dirs d.name with
 | none=>simp [q_j h]
 | some f=>simp [q_k h]
theorem u_R {types:List Def}{dirs:List DirDef}{defs:List SchemaDef}{c:WCtx}(hO:OkSchema types dirs defs)(ok1:∀ x∈c.ops,okOp x)(ok2:∀ x∈c.frags,b_j x)(hS:SoundD types (a_F types defs) c.ops c.frags)(hN:¬ leafD types (a_F types defs) c.ops c.frags)(ht:c.types=a_P++types)(hdd:c.dirs=d_s++dirs)
  (hroot:∀ x∈c.ops,rootT c x.kind=lastN Def.name (a_P++types) (rootD (a_F types defs) x.kind)):
  (∃ e,DocEv c e/\badAt c e)↔∃ x∈asks types dirs (a_F types defs) c.ops c.frags,wantL x:=by
 have hin:∀ n∈c_H c.ops c.frags,compK (findD types n).1.kind:=fun n hn=>hS.co n hn;have hrk:∀ x∈c.ops,compK (findD types (rootD (a_F types defs) x.kind)).1.kind:=fun x hx=>by
  have hne:=hS.rt x hx;unfold rootD at hne ⊢;split at hne
  ·rename_i r hr;show compK (findD types r.t).1.kind;rw [hO.roots.2.2.2 r (List.mem_of_find?_eq_some hr)];exact .inl rfl
  ·exact absurd rfl hne
 have hop:∀ x∈c.ops,((∃ y∈flL c.types (rootT c x.kind) x.kids,u_K c y)↔∃ y∈atL types (rootD (a_F types defs) x.kind) x.kids,u_H types y):=fun x hx=>
  u_J hO ht x.kids _ _ (ok1 x hx).2.2.2 (by rw [hroot x hx];exact j_O hO (p_D (hrk x hx))) (fun n hn=>hin n (ma_.2 (.inr (mf_.2 ⟨x,hx,hn⟩)))) fun y hy hb=>hN ⟨y,ma_.2 (.inl (mf_.2 ⟨x,hx,hy⟩)),hb⟩
 have hfr:∀ f∈c.frags,((∃ y∈flL c.types (lastN Def.name c.types f.on) f.kids,u_K c y)↔∃ y∈atL types f.on f.kids,u_H types y):=fun f hf=>
  u_J hO ht f.kids _ _ (ok2 f hf).2.1 (by rw [ht];exact j_O hO (p_D (hin f.on (ma_.2 (.inl (mf_.2 ⟨f,hf,by simp⟩)))))) (fun n hn=>hin n (ma_.2 (.inl (mf_.2 ⟨f,hf,by simp [hn]⟩)))) fun y hy hb=>hN ⟨y,ma_.2 (.inr (mf_.2 ⟨f,hf,hy⟩)),hb⟩
 have hA:∀ y,y∈atAll types (a_F types defs) c.ops c.frags->u_H types y->∃ x∈asks types dirs (a_F types defs) c.ops c.frags,wantL x:=fun y hy hb=>by
  obtain ⟨z,hz,h⟩:=(q_u y).2 hb;exact ⟨z,ma_.2 (.inl (mf_.2 ⟨y,hy,hz⟩)),h⟩
 constructor
 ·rintro ⟨e,hdoc,hbad⟩;cases e with
  | fld s pd=>
   rcases k_j.1 hdoc with ⟨x,hx,h⟩|⟨f,hf,h⟩
   ·obtain ⟨y,hy,hyb⟩:=(hop x hx).1 ⟨_,h,hbad⟩;exact hA y (ma_.2 (.inl (mf_.2 ⟨x,hx,hy⟩))) hyb
   ·obtain ⟨y,hy,hyb⟩:=(hfr f hf).1 ⟨_,h,hbad⟩;exact hA y (ma_.2 (.inr (mf_.2 ⟨f,hf,hy⟩))) hyb
  | dir d loc=>
   obtain ⟨u,hu,h|⟨d',hd',h⟩⟩:=(q_w (.inl rfl) ok1 ok2).1 hdoc
   ·cases h
   ·cases h;obtain ⟨y,hy,hyb⟩:=(u_O hO hdd d _).1 hbad;exact ⟨y,ma_.2 (.inr (mf_.2 ⟨u,hu,mf_.2 ⟨d,hd',hy⟩⟩)),hyb⟩
  | _=>cases hbad
 ·rintro ⟨z,hz,hno⟩;rcases ma_.1 hz with hz|hz
  ·obtain ⟨y,hy,hz⟩:=mf_.1 hz;have hyb:=(q_u y).1 ⟨z,hz,hno⟩;rcases ma_.1 hy with hy|hy
   ·obtain ⟨x,hx,hy⟩:=mf_.1 hy;obtain ⟨⟨s,pd⟩,h,hb'⟩:=(hop x hx).2 ⟨y,hy,hyb⟩;exact ⟨.fld s pd,k_j.2 (.inl ⟨x,hx,h⟩),hb'⟩
   ·obtain ⟨f,hf,hy⟩:=mf_.1 hy;obtain ⟨⟨s,pd⟩,h,hb'⟩:=(hfr f hf).2 ⟨y,hy,hyb⟩;exact ⟨.fld s pd,k_j.2 (.inr ⟨f,hf,h⟩),hb'⟩
  ·obtain ⟨u,hu,hz⟩:=mf_.1 hz;obtain ⟨d,hd',hz⟩:=mf_.1 hz;exact ⟨.dir d u.2,(q_w (.inl rfl) ok1 ok2).2 ⟨u,hu,.inr ⟨d,hd',rfl⟩⟩,(u_O hO hdd d _).2 ⟨z,hz,hno⟩⟩
abbrev wantD (types:List Def)(dirs:List DirDef)(roots:List RootD)(ops:List OpD)(frags:List Frag):Prop:=∃ x∈asks types dirs roots ops frags,wantL x
theorem u_P {types:List Def}(hty:∀ x∈types,∀ z∈x.fields,∀ y∈z.args,typW y.t<=2097152)(n:BA)(pd:Option Def)(f:Fld)(h:fldD pd n=some f)(hpd:∀ d,pd=some d->d∈a_P++types):∀ y∈f.args,typW y.t<=2097152:=by
 unfold fldD at h;split at h
 ·cases h;exact fun y hy=>absurd (show y∈([]:List ArgDef) from hy) nn_
 ·cases pd with
  | none=>cases h
  | some d=>
   have h:a_h Fld.name d.fields n=some f:=h;have hf:=(a_U h).1;rcases ma_.1 (hpd d rfl) with hd|hd
   ·obtain ⟨s,-, rfl⟩:=mm_.1 hd;simp [a_A] at hf
   ·exact hty d hd f hf
theorem u_N {dirs:List DirDef}(hty:∀ x∈dirs,∀ y∈x.args,typW y.t<=2097152):∀ x∈d_s++dirs,∀ y∈x.args,typW y.t<=2097152:=by
 have h:(d_s.all fun x=>x.args.all fun y=>Nat.ble (typW y.t) 2097152)=true:=by kernel_rfl
 intro x hx y hy;rcases ma_.1 hx with hx|hx
 ·exact Nat.le_of_ble_eq_true (List.all_eq_true.1 (List.all_eq_true.1 h x hx) y hy)
 ·exact hty x hx y hy
theorem u_Q (types:List Def)(dirs:List DirDef)(defs:List SchemaDef)(ops:List OpD)(frags:List Frag)(hO:OkSchema types dirs defs)(h12:ops.length<=12)(h12':frags.length<=12)(ok1:∀ x∈ops,okOp x)(ok2:∀ x∈frags,b_j x)(hs:docW ops frags<=2097152)(hS:SoundD types (a_F types defs) ops frags)(hN:¬ leafD types (a_F types defs) ops frags)(hty:(∀ x∈types,∀ z∈x.fields,∀ y∈z.args,typW y.t<=2097152)/\(∀ x∈dirs,∀ y∈x.args,typW y.t<=2097152)):
  RuleOK 85 (wideD types dirs (a_F types defs)) ops frags fun n=>0<=n/\(n>0↔wantD types dirs (a_F types defs) ops frags):=by
 refine ⟨⟨_,Tryz.func85,by kernel_rfl⟩,?_⟩;intro c cnt hops hfrags hwd hb hB hcnt hne hMc hMe;subst hops;subst hfrags;obtain ⟨rf,hrf⟩:=l_q hS.ac;have ht:c.types=a_P++types:=hwd.1;have htw:∀ (n:BA) (pd:Option Def) (f:Fld),fldD pd n=some f->(∀ d,pd=some d->d∈c.types)->∀ y∈f.args,typW y.t<=2097152:=fun n pd f h1 h2=>u_P hty.1 n pd f h1 fun d hd=>ht▸h2 d hd;have htd:∀ x∈c.dirs,∀ y∈x.args,typW y.t<=2097152:=by
  rw [hwd.2.1];exact u_N hty.2
 have x3:EF c.w0 (c.w0.alloc (.cells #[.func (.func 108) #[] #[.pointer (some (adr cnt))]] 161)):=(Ext.refl c.w0).alloc _;have Bae:=Blk.made c.w0 161 [.func (.func 108) #[] #[.pointer (some (adr cnt))]];refine u_A (some (adr c.eb)) _ c.w0 _ ⟨⟨rfl,trivial⟩,?_⟩;have hlc:=hcnt.lt;have hle:=hB.lt;generalize hw3:c.w0.alloc (.cells #[.func (.func 108) #[] #[.pointer (some (adr cnt))]] 161)=w3;replace x3:EF c.w0 w3:=by rw [<- hw3];exact x3
 replace Bae:Blk w3 c.w0.heap.size 161 [.func (.func 108) #[] #[.pointer (some (adr cnt))]]:=by rw [<- hw3];exact Bae
 clear hw3;have hla:=Bae.lt;refine (c_9 (f:=.func (.func 146) #[] #[.pointer (some (adr c.w0.heap.size))]) rfl (hB.ext x3 id) rfl).mono ?_;rintro _ w4 ⟨rfl,p,C,B4,ap4,hpb,x4⟩;refine ⟨rfl,trivial,?_⟩;refine (p_S (f:=.func (.func 148) #[] #[.pointer (some (adr c.w0.heap.size))]) rfl B4 rfl).mono ?_;rintro _ w5 ⟨rfl,p2,C2,B5,ap2,hpb2,x5'⟩;have x5:Ext (fun b=>b=c.eb) w3 w5:=x4.trans x5' fun _ _ e=>e;have hz4:=x4.size;have ap:At w5 _ p _:=x5'.at (by show ¬ p.block=c.eb;omega) ap4;have y5:Ext (fun b=>b=c.eb) c.w0 w5:=(x3.toM _).trans x5 fun _ _ e=>e;have hz5:=x5.size;have hz3:=x3.size;have hae:c.w0.heap.size≠cnt:=by omega
 have Bae5:=Bae.ext x5 (by show ¬ c.w0.heap.size=c.eb;omega);have Bc5:=hcnt.ext y5 hne;refine ⟨rfl,trivial,rfl,y5,fun b=>b=cnt∨b=c.w0.heap.size,StK (badAt c) c.w0.heap.size cnt,obL [(1,p,C),(5,p2,C2)],rf,?_,fun b hb'=>?_,fun b hb' T cs fr ho=>?_,fun l w'' hl ht'=>?_⟩
 ·have hVM:∀ b,(b=cnt∨b=c.w0.heap.size)->¬ c.M b:=fun b hV hM=>by
   have:=hb.m b hM;rcases hV with rfl|rfl
   ·exact hMc hM
   ·omega
  refine n_H hb hrf hMe y5 (fun b hb'=>hb'.imp id fun e=>by omega) hlc hne hMc hle (fun l w w'' h hx=>Cnt.ext h hx (fun e=>e (.inr rfl)) fun e=>e (.inl rfl)) (Cnt.zero Bae5 Bc5 (by simp)) B5 fun b5 wb fm fl j=>o_M (fun x hx=>?_) j;simp only [mc_,nn_,or_false] at hx;rcases hx with rfl|rfl
  ·refine ⟨_,_,[.pointer (some (adr c.w0.heap.size))],_,ap,fun h=>?_,fun h=>?_,Tryz.func146,by kernel_rfl,fun l w1 cx co vm evs node ev hl hw hk hn=>u_U hVM (fun e=>Iff.rfl) hae htw hl hw hk hn⟩
   ·have:p.block<c.w0.heap.size:=hb.m _ h;omega
   ·have:p.block=cnt∨p.block=c.w0.heap.size:=h;omega
  ·refine ⟨_,_,[.pointer (some (adr c.w0.heap.size))],_,ap2,fun h=>?_,fun h=>?_,Tryz.func148,by kernel_rfl,fun l w1 cx co vm evs node ev hl hw hk hn=>u_V (b5.at3 wb fm fl) hVM (fun e=>Iff.rfl) hae htd hl hw hk hn⟩
   ·have:p2.block<c.w0.heap.size:=hb.m _ h;omega
   ·have:p2.block=cnt∨p2.block=c.w0.heap.size:=h;omega
 ·rcases hb' with rfl|rfl
  ·exact .inr (Nat.le_refl _)
  ·exact .inr (by omega)
 ·rcases hb' with rfl|rfl
  ·rw [Bc5.type ho];decide
  ·rw [Bae5.type ho];decide
 ·obtain ⟨-, n,hn,hk⟩:=hl;have hsm:=o_K (c:={ c with V:=fun b=>b=cnt∨b=c.w0.heap.size,St:=StK (badAt c) c.w0.heap.size cnt,w0:=w5,rf:=rf}) (ob:=obL [(1,p,C),(5,p2,C2)]) h12 h12' hs;obtain ⟨k1,k2,k3⟩:=hk (lt_ (Nat.mul_le_mul_right _ (lt_ ht'.few hsm)) (by decide));refine ⟨n,hn,k1,k3.trans ((ht'.bad fun e hbad=>?_).trans ?_)⟩
  ·cases e with
   | fld s=>rfl
   | dir d loc=>rfl
   | _=>cases hbad
  ·refine u_R hO ok1 ok2 hS hN ht hwd.2.1 fun x hx=>?_;obtain ⟨-, -, e1,e2,e3,-⟩:=hwd;rcases (ok1 x hx).1 with h|h|h
   ·rw [m_9 (.inl h),e1,ht,h];rfl
   ·rw [m_8 (by rw [h];rintro (k|k)<;>exact absurd k (by decide)) h,e2,ht,h];rfl
   ·rw [n_a (by rw [h];rintro (k|k)<;>exact absurd k (by decide)) (by rw [h];decide) h,e3,ht,h];rfl
theorem u_B {P:Int->Prop}{wd:WorldD}{a1:OA}{l1 c1:Nat}{a2:OA}{l2 c2:Nat}{a6:OA}{l6 c6:Nat}{a7:OA}{l7 c7:Nat}{q8:OA}{q8l q8c:Nat}{q9:OA}{q9l q9c:Nat}{ops:List OpD}{frags:List Frag}{w:World}
  (hw:c_6 w wd [.slice a1 l1 c1,.slice a2 l2 c2,.string wd.query,.string wd.mutation,.string wd.subscription,.slice a6 l6 c6,.slice a7 l7 c7]) (ok3:∀ x∈wd.dirs,∀ y∈x.args,a_s y) (ok4:∀ x∈wd.types,okDef x)
  (few6:(pushD wd.types wd.possible).length<=4194304) (few7:(pushD wd.types wd.implements).length<=4194304) (hl1:ROps w q8 q8l q8c ops) (hl2:a_X w q9 q9l q9c frags) (ok1:∀ x∈ops,okOp x) (ok2:∀ x∈frags,b_j x) (hr:RuleOK 85 wd ops frags P) (hB0:DB.B<=w.heap.size):
  CP 38 #[.agg #[.slice a1 l1 c1,.slice a2 l2 c2,.string wd.query,.string wd.mutation,.string wd.subscription,.slice a6 l6 c6,.slice a7 l7 c7],.agg #[.slice q8 q8l q8c,.slice q9 q9l q9c]] w fun e w'=>
   ∃ n,e=.returned (.tuple #[.int .i64 n,.bool true])/\P n/\EF w w':=by
 have x11:EF w (w.alloc (.cells #[.slice a1 l1 c1,.slice a2 l2 c2,.string wd.query,.string wd.mutation,.string wd.subscription,.slice a6 l6 c6,.slice a7 l7 c7] 40)):=(Ext.refl w).alloc _;have x12:=x11.alloc (.cells #[.slice q8 q8l q8c,.slice q9 q9l q9c] 30);refine u_C a1 l1 c1 a2 l2 c2 wd.query wd.mutation wd.subscription a6 l6 c6 a7 l7 c7 q8 q8l q8c q9 q9l q9c w _ ⟨trivial,trivial,?_⟩;refine (j_d (c_6.keep x12.keep hw) ok3 ok4 few6 few7 (hl1.keep x12.keep) (hl2.keep x12.keep) ok1 ok2 hr (lt_ hB0 x12.size)).mono ?_;rintro _ w' ⟨n,rfl,hp,hx⟩;exact ⟨n,true,rfl,⟨hx.keepT _,hx.keepT _,trivial⟩,n,rfl,hp,x12.then hx⟩
theorem u_I
  {d1:OA} {d1l d1c:Nat} {d2:OA} {d2l d2c:Nat} {d3:OA} {d3l d3c:Nat} {d4:OA} {d4l d4c:Nat} {d5:OA} {d5l d5c:Nat} {q6:OA} {q6l q6c:Nat} {q7:OA} {q7l q7c:Nat} {defs exts:List SchemaDef} {dirs:List DirDef} {types texts:List Def} {ops:List OpD} {frags:List Frag} {w:World}
  (h1:a_p w d1 d1l d1c defs) (h2:a_p w d2 d2l d2c exts) (h3:a_Y w d3 d3l d3c dirs) (h4:RDefs w d4 d4l d4c types) (h5:RDefs w d5 d5l d5c texts) (hs:d1l+d2l<=4194304) (hsp:docW ops frags<=2097152) (hty:(∀ x∈types,∀ z∈x.fields,∀ y∈z.args,typW y.t<=2097152)/\(∀ x∈dirs,∀ y∈x.args,typW y.t<=2097152)) (h6:ROps w q6 q6l q6c ops) (h7:a_X w q7 q7l q7c frags) (hB0:DB.B<=w.heap.size):
  CP 10 #[.agg #[.slice d1 d1l d1c,.slice d2 d2l d2c,.slice d3 d3l d3c,.slice d4 d4l d4c,.slice d5 d5l d5c],.agg #[.slice q6 q6l q6c,.slice q7 q7l q7c]] w fun e w'=>e=.returned (.bool true)/\EF w w':=by
 have x8:EF w (w.alloc (.cells #[.slice d1 d1l d1c,.slice d2 d2l d2c,.slice d3 d3l d3c,.slice d4 d4l d4c,.slice d5 d5l d5c] 26)):=(Ext.refl w).alloc _;have x9:=x8.alloc (.cells #[.slice q6 q6l q6c,.slice q7 q7l q7c] 30);refine u_D d1 d1l d1c d2 d2l d2c d3 d3l d3c d4 d4l d4c d5 d5l d5c q6 q6l q6c q7 q7l q7c w _ ⟨trivial,trivial,fun K10 hK10=>?_⟩;have key10:∀ b w',EF w w'->K10 b w':=by
  intro b w' xw;refine hK10 b w' ⟨fun _=>⟨rfl,xw⟩,fun _=>?_⟩;refine (n_5 (h1.keep xw.keep) (h2.keep xw.keep) (h3.keep xw.keep) (h4.keep xw.keep) (h5.keep xw.keep) hs (lt_ hB0 xw.size)).mono ?_;rintro _ w14 ⟨q15,b16,rfl,x14,hok⟩;refine ⟨q15,b16,rfl,⟨x14.keepT _,x14.keepT _,trivial⟩,fun K17 hK17=>?_⟩;have y14:=xw.then x14;have key17:∀ b w',EF w14 w'->(b=false->b16=true/\ops.length<=12/\frags.length<=12/\(∀ x∈ops,okOp x)/\(∀ x∈frags,b_j x)/\SoundD types (a_F types defs) ops frags/\¬ leafD types (a_F types defs) ops frags)->K17 b w':=by
   intro b w19 x19 hb;have y19:=y14.then x19;refine hK17 b w19 ⟨fun _=>⟨rfl,y19⟩,fun hbf=>?_⟩;obtain ⟨hb16,n1,n2,ok1,ok2,hS,hP⟩:=hb hbf;obtain ⟨k,rfl,A,L,C,hB,hR,hO⟩:=hok hb16;intro w20 e20;have x20:EF w19 w20:=by rw [e20];exact (Ext.refl w19).drew
   have y20:=y19.then x20;have z20:=x19.then x20;refine (i_8 (hB.ext z20 id) (h4.keep y20.keep) (hR.keep z20.keep) (h3.keep y20.keep) hO.few.1 (fun t ht=>by have:=hO.small t ht;omega) hO.few.2 (lt_ hB0 y20.size)).mono ?_;rintro _ w22 ⟨cs,rfl,hW,x22⟩;obtain ⟨ok3,ok4,few6,few7⟩:=k_I hO;have hW':=hW;obtain ⟨a1,l1,c1,a2,l2,c2,a6,l6,c6,a7,l7,c7,rfl,-⟩:=hW';have y22:=y20.then x22;refine ⟨a1,l1,c1,a2,l2,c2,_,_,_,a6,l6,c6,a7,l7,c7,rfl,⟨x22.keepT _,x22.keepT _,trivial⟩,⟨rfl,trivial⟩,?_⟩;refine (u_B hW ok3 ok4 few6 few7 (h6.keep y22.keep) (h7.keep y22.keep) ok1 ok2 (u_Q types dirs defs ops frags hO n1 n2 ok1 ok2 hsp hS hP hty) (lt_ hB0 y22.size)).mono ?_;rintro _ w31 ⟨n,rfl,⟨hn0,hn⟩,x31⟩;have y31:=y22.then x31;refine ⟨n,true,rfl,⟨x31.keepT _,x31.keepT _,trivial⟩,trivial,trivial,trivial,?_⟩;have z31:=(z20.then x22).then x31;refine (u_F (lt_ hB0 y31.size) (hB.ext z31 id) (h4.keep y31.keep) (hR.keep z31.keep) (h3.keep y31.keep) hO.few.2 (h6.keep y31.keep) (h7.keep y31.keep) ok1 ok2 hsp).mono ?_;rintro _ w35 ⟨b36,rfl,x35,hb36⟩;have y35:=y31.then x35;refine ⟨b36,rfl,⟨x35.keepT _,x35.keepT _,trivial⟩,?_⟩;refine (j_9 n true b36 w35).mono ?_;rintro _ w38 ⟨rfl,rfl⟩;refine ⟨_,rfl,⟨(Ext.refl _).keepT _,(Ext.refl _).keepT _,trivial⟩,?_,y35⟩;rw [n_f hn0 (hn.trans hb36.symm)]
  refine ⟨fun hb=>?_,fun hb=>key17 true w14 (Ext.refl w14) nofun⟩;refine (n_7 (h6.keep y14.keep) (h7.keep y14.keep)).mono ?_;rintro _ w41 ⟨b42,rfl,x41,hsm⟩;have y41:=y14.then x41;refine ⟨b42,rfl,⟨x41.keepT _,x41.keepT _,trivial⟩,fun h42=>?_,fun _=>key17 true w41 x41 nofun⟩;obtain ⟨n1,n2,ok1,ok2⟩:=hsm (by simpa using h42);obtain ⟨k,rfl,A,L,C,hB,hR,hO⟩:=hok (by simpa using hb);refine (i_c (hB.ext x41 id) (h4.keep y41.keep) (hR.keep x41.keep) (h6.keep y41.keep) (h7.keep y41.keep) ok1 ok2 n2 hsp).mono ?_;rintro _ w53 ⟨b54,rfl,x53,hS⟩;have z53:=x41.then x53;have y53:=y41.then x53;refine ⟨b54,rfl,⟨x53.keepT _,x53.keepT _,trivial⟩,fun h54=>?_,fun _=>key17 true w53 z53 nofun⟩;have hS':=hS (by simpa using h54);refine (f_W (lt_ hB0 y53.size) (hB.ext z53 id) (h4.keep y53.keep) (hR.keep z53.keep) (h6.keep y53.keep) (h7.keep y53.keep) ok1 ok2).mono ?_;rintro _ w56 ⟨b57,rfl,x56,hP⟩;exact ⟨b57,rfl,⟨x56.keepT _,x56.keepT _,trivial⟩,key17 _ w56 (z53.then x56) fun h=>⟨by simpa using hb,n1,n2,ok1,ok2,hS',fun k=>by rw [hP.2 k] at h;cases h⟩⟩
 refine (f_4 d1 d1l d1c d2 d2l d2c d3 d3l d3c d4 d4l d4c d5 d5l d5c _).mono ?_;rintro _ w44 ⟨b45,rfl,x44,-⟩;have y44:=x9.then x44;refine ⟨b45,rfl,⟨x44.keepT _,x44.keepT _,trivial⟩,fun _=>?_,fun _=>key10 true w44 y44⟩;refine (f_5 q6 q6l q6c q7 q7l q7c _).mono ?_;rintro _ w47 ⟨b48,rfl,x47,-⟩;exact ⟨b48,rfl,⟨x47.keepT _,x47.keepT _,trivial⟩,key10 _ w47 (y44.then x47)⟩
end Go.VC
