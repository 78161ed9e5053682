/- Part of the proof of a law of a rule over documents (WalkC), where what the arguments hold is of bulk at most 1048576. -/
import Derived.Test.YtmnhdjhlcgfpkaaGreatWalkB
set_option linter.unusedVariables false
set_option linter.unusedSectionVars false
set_option linter.deprecated false
namespace Go.VC
open Go Go.Proofs
variable [DB]
variable {α:Type}{k n:BA}{b:Bool}{f:Frag}{i:Int}{vs:List BA}{es l:List Ev}{ops:List OpD}{xs:List α}{vm:Nat}{o:OC}{ob:Obs}{x:OpD}{pd':Option Def}{c:WCtx}{w w':World}
theorem Blk.at_mem {b:Nat}{T T':TypeId}{cs:List Value}{a:Addr}{v:Value}(h:Blk w b T cs)(ha:At w T' a v)(e:a.block=b):v∈cs:=by
 obtain ⟨cs',fr,h1,h2,h3⟩:=ha;rw [e] at h1;have h1:=h1.symm.trans h;simp only [Option.some.injEq,Obj.cells.injEq] at h1;rw [h1.1] at h3;have:=Array.mem_of_getElem? h3;simpa using this
structure Wp (c:WCtx) (vm:Nat) (w w':World):Prop where
 ext:Ext (fun b=>WX c vm b∨b=c.wb) w w'
 wk:Wk c w w'
theorem Wp.trans {w'':World}(h:Wp c vm w w')(k:Wp c vm w' w''):Wp c vm w w'':=⟨h.ext.trans k.ext fun _ _ h=>h,h.wk.trans k.wk⟩
theorem Stp.wp {r:Nat}(h:Stp c vm r w w'):Wp c vm w w':=⟨h.ext.mono fun _ _ e=>.inl e,h.wk⟩
theorem Wp.set (g:Good c)(vm:Nat)(w:World)(j:Nat)(v:Value):Wp c vm w (w.setCell ⟨c.wb,j,none⟩ v):=by
 have hx:Ext (fun b=>b=c.wb) w (w.setCell ⟨c.wb,j,none⟩ v):=Ext.setCell (X:=fun b=>b=c.wb) (Ext.refl w) (a:=⟨c.wb,j,none⟩) (.inl rfl) _;exact ⟨hx.mono fun _ _ e=>.inr e,Wk.ofExt hx fun b hM e=>g.wb.1 (e▸hM)⟩
theorem Wd.set4 (g:Good c)(h:Wd c o vs l w)(co':OA)(cx':Option OpD)(D':Ev->Prop)(hco:OptQ (POc c) cx' co')
  (hcl:∀ n pd f,D' (.spread n true pd)->a_h Frag.name c.frags n=some f->∀ e∈evFr c.types c.frags cx' f,D' e) (hdl:∀ x,cx'=some x->∀ e,D' e->DOp c x e):
  Wd c { o with co:=co',cx:=cx',D:=D'} vs l (w.setCell ⟨c.wb,4,none⟩ (.pointer co')):=by
 have hx:Ext (fun b=>b=c.wb) w (w.setCell ⟨c.wb,4,none⟩ (.pointer co')):=Ext.setCell (X:=fun b=>b=c.wb) (Ext.refl w) (a:=⟨c.wb,4,none⟩) (.inl rfl) _;have hb:=a_E (v:=.pointer co') (a:=⟨c.wb,4,none⟩) h.st.walker rfl;refine ⟨⟨h.st.wk.trans (Wk.ofExt hx fun b hM e=>g.wb.1 (e▸hM)),lt_ h.st.sz hx.size,hb,h.st.events.ext hx g.eb.2.2,⟨h.st.frags.1.ext hx g.fm.2.2,h.st.frags.2⟩,h.st.vm,hco⟩,h.vm.ext hx h.st.vm.1,h.nd,h.sub,g.st l w _ h.ev (hx.mono fun b _ e hV=>g.wb.2 (e▸hV)) (Wk.ofExt hx fun b hM e=>g.wb.1 (e▸hM)),fun j=>(h.vis j).ne hx fun T p gg cap ha _ _ e=>?_,hcl,hdl⟩;have:=h.st.walker.at_mem ha e;simp at this
theorem Wst.roots {cx:Option OpD}{co:OA}{evs:List Value}(g:Good c)(h:Wst c cx co vm evs w):
  ∃ q1 q2 q3,w.cell? ⟨c.sb,0,none⟩=some (.pointer q1)/\w.cell? ⟨c.sb,1,none⟩=some (.pointer q2)/\w.cell? ⟨c.sb,2,none⟩=some (.pointer q3)/\OptQ (PDef c.M c.w0) (lastN Def.name c.types c.rq) q1/\OptQ (PDef c.M c.w0) (lastN Def.name c.types c.rm) q2/\OptQ (PDef c.M c.w0) (lastN Def.name c.types c.rs) q3:=by
 obtain ⟨q1,q2,q3,s,hB,o1,o2,o3⟩:=g.sch;exact ⟨q1,q2,q3,h.wk.nd g.sb hB (j:=0) rfl rfl,h.wk.nd g.sb hB (j:=1) rfl rfl,h.wk.nd g.sb hB (j:=2) rfl rfl,o1,o2,o3⟩
theorem m_f {cx:Option OpD}{l:List (BA × Val)}(h:∀ x∈l,∀ e∈evV cx x.2,slot e=7):∀ e∈a_L cx l,slot e=7:=by
 induction l with
 | nil=>intro e he;simp [a_L] at he
 | cons x l ih=>
  intro e he;simp only [a_L,ma_] at he;rcases he with he|he
  ·exact h x (by simp) e he
  ·exact ih (fun y hy=>h y (by simp [hy])) e he
theorem i_o {cx:Option OpD}:∀ (v:Val),∀ e∈evV cx v,slot e=7
 | .mk k r kids,e,he=>by
  have ih:∀ e∈a_L cx kids,slot e=7:=m_f fun x hx=>by
   have:SizeOf.sizeOf x.2<1+SizeOf.sizeOf k+SizeOf.sizeOf r+SizeOf.sizeOf kids:=by
    have h1:=List.sizeOf_lt_of_mem hx;cases x;simp at h1 ⊢;omega
   exact i_o x.2
  simp only [evV,ma_] at he;rcases he with he|he|he
  ·split at he
   ·exact ih e he
   ·simp at he
  ·split at he
   ·exact ih e he
   ·simp at he
  ·obtain rfl:e=.val (.mk k r kids) cx:=by simpa using he
   rfl
 termination_by v=>SizeOf.sizeOf v
theorem d_8 {cx:Option OpD}{l:List Argm}:∀ e∈b_B cx l,slot e=7:=fun e he=>by
 obtain ⟨a,-, he⟩:=mf_.1 he;exact i_o _ e he
theorem b_C {cx:Option OpD}{loc:BA}{l:List Dir}:∀ e∈evDs cx loc l,slot e=5∨slot e=6∨slot e=7:=fun e he=>by
 rcases ma_.1 he with he|he
 ·obtain ⟨d,-, he⟩:=mf_.1 he;rcases ma_.1 he with he|he
  ·exact .inr (.inr (d_8 e he))
  ·obtain rfl:e=.dir d loc:=by simpa using he
   exact .inl rfl
 ·obtain rfl:e=.dirs l:=by simpa using he
  exact .inr (.inl rfl)
theorem l_C {cx:Option OpD}{l:List Val}:∀ e∈evDef cx l,slot e=7:=fun e he=>by
 cases l with
 | nil=>simp [evDef] at he
 | cons v l=>exact i_o v e he
theorem g_e {cx:Option OpD}{l:List VarD}:∀ e∈f_j cx l,slot e=8∨slot e=5∨slot e=6∨slot e=7:=fun e he=>by
 rcases ma_.1 he with he|he
 ·obtain ⟨v,-, rfl⟩:=mm_.1 he;exact .inl rfl
 ·obtain ⟨v,-, he⟩:=mf_.1 he;rcases ma_.1 he with he|he
  ·have:=l_C e he;omega
  ·have:=b_C e he;omega
section
variable {tys:List Def} {fs:List Frag} {cx:Option OpD}
theorem d_v :∀ (ks:List Sel) (pd:Option Def),Ev.spread n b pd'∈evL tys fs cx pd ks->n∈spL ks/\b=isFr fs n
 | [],pd,h=>by simp [evL] at h
 | .mk k al nm on args dirs kids::l,pd,h=>by
  simp only [evL,ma_] at h;rcases h with h|h
  ·simp only [evS] at h;split at h
   ·rename_i hk;simp only [ma_,mc_,nn_,or_false] at h;rcases h with h|h|h|h
    ·have:=d_8 _ h;cases this
    ·have:=b_C _ h;simp [slot] at this
    ·have:=d_v kids _ h;exact ⟨by simp [spL,spS,hk,this.1],this.2⟩
    ·cases h
   ·split at h
    ·rename_i hk;simp only [ma_,mc_,nn_,or_false] at h;rcases h with h|h
     ·have:=b_C _ h;simp [slot] at this
     ·cases h;exact ⟨by simp [spL,spS,hk],rfl⟩
    ·rename_i hk0 hk1;simp only [ma_,mc_,nn_,or_false] at h;rcases h with h|h|h
     ·have:=b_C _ h;simp [slot] at this
     ·have:=d_v kids _ h;exact ⟨by simp [spL,spS,hk1,this.1],this.2⟩
     ·cases h
  ·have:=d_v l _ h;exact ⟨by simp only [spL,ma_];exact .inr this.1,this.2⟩
theorem c_L (ks:List Sel)(pd:Option Def)(ok:a_z ks)(h:n∈spL ks):∃ pd',Ev.spread n (isFr fs n) pd'∈evL tys fs cx pd ks:=u_3 ks pd h
theorem g_O (h:Ev.spread n b pd'∈evFr tys fs cx f):n∈spL f.kids/\b=isFr fs n:=by
 rcases ma_.1 h with h|h
 ·have:=b_C _ h;simp [slot] at this
 ·exact d_v _ _ h
end
theorem n_c (h:Ev.spread n b pd'∈evOp c x):n∈spL x.kids/\b=isFr c.frags n:=by
 simp only [evOp,ma_] at h;rcases h with h|h|h|h
 ·have:=g_e _ h;simp [slot] at this
 ·have:=b_C _ h;simp [slot] at this
 ·exact d_v _ _ h
 ·simp at h
def DFr (c:WCtx)(y:Frag)(e:Ev):Prop:=e∈evFr c.types c.frags none y∨∃ n f,Rch c.frags y.kids n/\a_h Frag.name c.frags n=some f/\e∈evFr c.types c.frags none f
theorem o_R :∀ n pd f,DOp c x (.spread n true pd)->a_h Frag.name c.frags n=some f->∀ e∈evFr c.types c.frags (some x) f,DOp c x e:=by
 rintro n pd f (h|⟨m,f',hr,hf',h⟩) hf e he
 ·obtain ⟨h1,h2⟩:=n_c h;exact .inr ⟨n,f,.base h1 h2.symm,hf,he⟩
 ·obtain ⟨h1,h2⟩:=g_O h;exact .inr ⟨n,f,.step hr hf' h1 h2.symm,hf,he⟩
theorem o_Q {y:Frag}:∀ n pd f,DFr c y (.spread n true pd)->a_h Frag.name c.frags n=some f->∀ e∈evFr c.types c.frags none f,DFr c y e:=by
 rintro n pd f (h|⟨m,f',hr,hf',h⟩) hf e he
 ·obtain ⟨h1,h2⟩:=g_O h;exact .inr ⟨n,f,.base h1 h2.symm,hf,he⟩
 ·obtain ⟨h1,h2⟩:=g_O h;exact .inr ⟨n,f,.step hr hf' h1 h2.symm,hf,he⟩
theorem l_a {ks:List Sel}(okf:∀ f∈c.frags,a_z f.kids)(h0:∀ n∈spL ks,isFr c.frags n=true->n∈vs)(hd:∀ n∈vs,Done c o w es vs n)(h:Rch c.frags ks n):n∈vs:=by
 induction h with
 | base h1 h2=>exact h0 _ h1 h2
 | @step n m f hr hf h1 h2 ih=>
  obtain ⟨pd',he⟩:=c_L (tys:=c.types) (fs:=c.frags) (cx:=o.cx) f.kids (lastN Def.name c.types f.on) (okf f (a_U hf).1) h1;rw [h2] at he;exact ((hd n ih).1 f hf _ (ma_.2 (.inr he))).2.1 _ _ rfl
structure SegO (c:WCtx) (ob:Obs) (x:OpD) (es:List Ev):Prop where
 only:∀ e∈es,DOp c x e/\ob.on (slot e)=true
 all:∀ e,DOp c x e->ob.on (slot e)=true->e∈es
 few:es.length<=cntE ob (evOp c x)+(c.frags.map fun f=>cntE ob (evFr c.types c.frags (some x) f)).sum
 ends:∃ es0,es=es0++em ob (.op x)/\∀ e,DOp c x e->slot e≠0->ob.on (slot e)=true->e∈es0
structure SegF (c:WCtx) (ob:Obs) (y:Frag) (es:List Ev):Prop where
 ends:∃ es0,es=es0++em ob (.frag y)/\(∀ e∈es0,DFr c y e/\ob.on (slot e)=true)/\∀ e,DFr c y e->ob.on (slot e)=true->e∈es0
 few:es.length<=cntE ob (evFr c.types c.frags none y)+1+(c.frags.map fun f=>cntE ob (evFr c.types c.frags none f)).sum
theorem m_D (c:WCtx)(o:OC):pot c o []=(c.frags.map fun f=>cntE o.ob (evFr c.types c.frags o.cx f)).sum:=by
 unfold pot;congr 1
theorem h_a (g:Good c)(okf:∀ f∈c.frags,a_z f.kids){fb:Nat}(hw:Wd c o [] l w)(hco:o.cx=none)(hD:o.D=DFr c f)(hp:PFrag c.M c.w0 f fb)(hf:f∈c.frags):
  CP 193 #[.pointer (some (adr c.wb)),.pointer (some (adr fb))] w fun e w'=>e=.returned (.tuple #[])/\Wp c o.vm w w'/\∃ vs' es,Wd c o vs' (l++es) w'/\SegF c o.ob f es:=by
 have hp':=hp;obtain ⟨Af2,Lf2,Cf2,Af3,Lf3,Cf3,posf,hM,hB,hfd,hfk⟩:=hp';have hdoc:∀ e∈evFr c.types c.frags o.cx f,o.D e:=fun e he=>by
  rw [hD];rw [hco] at he;exact .inl he
 obtain ⟨R,hR⟩:∃ R,R=c.rank fb+rkDs f.dirs+rkL c.rf f.kids+1:=⟨_,rfl⟩;refine c_o (some (adr c.wb)) (some (adr fb)) w _ fun w3 e3=>?_;have n3:=(Nst.refl c R w).drew e3;have d3:=hw.nst g n3;obtain ⟨z1,z2,z3,z4⟩:=d3.st.sch g;obtain ⟨q10,r10,o10⟩:=z4 f.on;have nset:=Nst.set (r:=R) (v:=.pointer q10) d3.st.wk hM hB (by omega) (o_l hp o10);have a12:=d3.st.wk.setat hM hB (j:=6) (v:=.pointer q10) (by simp);have n12:=n3.trans nset;have d12:=hw.nst g n12;refine ⟨adr c.wb,rfl,_,z1,adr c.sb,rfl,_,z2,adr fb,rfl,f.on,d3.st.wk.nd hM hB (j:=3) rfl rfl,q10,r10,trivial,adr fb,rfl,d3.st.wk.off hM hB (j:=6) (n:=1) (by simp),trivial,adr fb,rfl,Af2,Lf2,Cf2,d12.st.wk.nd hM hB (j:=4) rfl rfl,?_⟩;refine (a_D g d12 hfd fun e he=>hdoc e (ma_.2 (.inl he))).mono ?_;rintro _ w16 ⟨rfl,n16⟩;refine ⟨rfl,trivial,adr fb,rfl,Af3,Lf3,Cf3,n16.st.wk.nd hM hB (j:=5) rfl rfl,?_⟩;have n16':=n16.after (r:=R) (by omega) (Stp.refl c o.vm R _);refine (n16'.thenJ (r2:=rkL c.rf f.kids+1) (by omega) fun vs' l' d' hv hj'=>e_X g (c.frags.length+1) f.kids Af3 Lf3 Cf3 _ q10 w16 o vs' l' d' (GQ.of g o10) (by omega) hfk (fun e he=>hdoc e (ma_.2 (.inr he))) (hj' _ fun n hn=>by simp at hn)).mono ?_;rintro _ w20 ⟨rfl,⟨vs',es,h20⟩,-⟩;obtain ⟨y1,y2⟩:=Wr.events ⟨vs',es,h20⟩ 2 rfl;refine ⟨rfl,trivial,adr c.wb,rfl,_,y1,adr c.eb,rfl,_,_,_,y2,?_⟩;have hnode:f_i c o.cx w20 (.pointer (some (adr fb))) (.frag f):=by
  obtain ⟨v',hv',hcase⟩:=h20.stp.wk.note (a:=⟨fb,6,none⟩) hM a12;refine ⟨hco,fb,rfl,hp,hf,?_⟩;rcases hcase with rfl|hok
  ·exact ⟨q10,hv'.cell,o10⟩
  ·obtain ⟨q,rfl,hq⟩:=hok.2.2.2.2.2.2.1 ⟨rfl,rfl⟩;exact ⟨q,hv'.cell,hq f hp⟩
 refine l_o g (h20.wd.vis 2) h20.wd.ev h20.wd.st (ev:=.frag f) rfl hnode (Q:=fun w'=>(.returned (.tuple #[]):Ending)=.returned (.tuple #[])/\Wp c o.vm w w'/\∃ vs' es,Wd c o vs' (l++es) w'/\SegF c o.ob f es) fun w2 hx hs=>⟨rfl,?_,vs',es++em o.ob (.frag f),by rw [<- List.append_assoc];exact h20.wd.v g hx (by exact hs),⟨es,rfl,fun e he=>?_,fun e hde ho=>?_⟩,?_⟩
 ·exact (n12.stp.trans (h20.stp.trans (Stp.ofV g hx))).wp
 ·obtain ⟨h1,h2⟩:=h20.only e he;rw [hD] at h1;exact ⟨h1,h2⟩
 ·have hdn:∀ n∈vs',Done c o w20 es vs' n:=fun n hn=>(h20.done n hn).resolve_left (by simp);rcases hde with he|⟨n,f',hr,hf',he⟩
  ·exact (h20.told e (by rw [hco];exact he)).1 ho
  ·have hn:=l_a okf (fun n hn hi=>by
    obtain ⟨pd',he⟩:=c_L (tys:=c.types) (fs:=c.frags) (cx:=o.cx) f.kids (lastN Def.name c.types f.on) (okf f hf) hn;rw [hi] at he;exact (h20.told _ (ma_.2 (.inr he))).2.1 _ _ rfl) hdn hr
   exact ((hdn n hn).1 f' hf' e (by rw [hco];exact he)).1 ho
 ·have h1:=h20.cap;have h2:=o_S o.ob (.frag f);rw [m_D,hco] at h1;have h3:cntE o.ob (evDs none d_z f.dirs++evL c.types c.frags none (lastN Def.name c.types f.on) f.kids)=cntE o.ob (evFr c.types c.frags none f):=rfl;rw [la_];omega
def rkVs:List VarD->Nat
 | []=>0
 | v::l=>rkDs v.dirs+(match v.dflt with |[]=>0|d::_=>rkV d)+rkVs l
theorem f_K {v:VarD}:∀ {l:List VarD},v∈l->rkDs v.dirs<=rkVs l/\∀ d r,v.dflt=d::r->rkV d<=rkVs l
 | y::l,h=>by
  simp only [rkVs];rcases mc_.1 h with rfl|h
  ·refine ⟨by omega,fun d r e=>?_⟩;rw [e];dsimp only;omega
  ·obtain ⟨h1,h2⟩:=f_K h;refine ⟨by omega,fun d r e=>?_⟩;have:=h2 d r e;omega
theorem m_9 (h:k=a_5∨k=E0):rootT c k=lastN Def.name c.types c.rq:=by
 rw [rootT,if_pos (by rcases h with h|h<;>simp [h]),rootN,if_pos h]
theorem m_8 (h:¬ (k=a_5∨k=E0))(hm:k=bMut):rootT c k=lastN Def.name c.types c.rm:=by
 rw [rootT,if_pos (.inr (.inr (.inl hm))),rootN,if_neg h,if_pos hm]
theorem n_a (h:¬ (k=a_5∨k=E0))(hm:¬ k=bMut)(hs:k=bSub):rootT c k=lastN Def.name c.types c.rs:=by
 rw [rootT,if_pos (.inr (.inr (.inr hs))),rootN,if_neg h,if_neg hm,if_pos hs]
theorem f_7 (g:Good c)(okf:∀ f∈c.frags,a_z f.kids){ob:Nat}(hw:Wd c o [] l w)(hp:POp c.M c.w0 x ob)(hxo:x∈c.ops)(hoi:OpIn c x ob)(hok:a_z x.kids)(hvt:∀ v∈x.vars,okTyp v.t):
  CP 192 #[.pointer (some (adr c.wb)),.pointer (some (adr ob))] w fun e w'=>e=.returned (.tuple #[])/\Wp c o.vm w w'/\∃ vs' es,Wd c { o with co:=none,cx:=none,D:=fun _=>False} vs' (l++es) w'/\SegO c o.ob x es:=by
 have hp':=hp;obtain ⟨A1,L1,C1,A2,L2,C2,A3,L3,C3,pos,hM,hB,hvars,hdirs,hkids⟩:=hp';have hL10:=hvars.1;have hL1:=hvars.2.2.1;have d4:=hw.set4 g (some (adr ob)) (some x) (DOp c x) ⟨ob,rfl,hp,hoi⟩ o_R fun y e z h=>by cases e;exact h
 have p4:=Wp.set g o.vm w 4 (.pointer (some (adr ob)));refine c_j (some (adr c.wb)) (some (adr ob)) w _ ⟨adr c.wb,rfl,hw.st.walker.off (j:=4) (n:=1) (q:=fun _=>false) (by simp) rfl,trivial,adr ob,rfl,A1,L1,C1,d4.st.wk.nd hM hB (j:=3) rfl rfl,?_⟩;generalize hw4:w.setCell ((adr c.wb).add 4) (.pointer (some (adr ob)))=w4;replace d4:Wd c { o with co:=some (adr ob),cx:=some x,D:=DOp c x} [] l w4:=by rw [<- hw4];exact d4
 replace p4:Wp c o.vm w w4:=by rw [<- hw4];exact p4
 clear hw4;generalize ho4:({ o with co:=some (adr ob),cx:=some x,D:=DOp c x}:OC)=o4 at d4;have hvm4:o4.vm=o.vm:=by rw [<- ho4]
 have hob4:o4.ob=o.ob:=by rw [<- ho4]
 have hcx4:o4.cx=some x:=by rw [<- ho4]
 have hD4:o4.D=DOp c x:=by rw [<- ho4]
 have hdoc:∀ e∈f_j o4.cx x.vars++(evDs o4.cx (opLoc x.kind) x.dirs++(evL c.types c.frags o4.cx (rootT c x.kind) x.kids++[.op x])),o4.D e:=fun e he=>by
  rw [hcx4] at he;rw [hD4];exact .inl he
 obtain ⟨R,hR⟩:∃ R,R=rkVs x.vars+rkDs x.dirs+rkL c.rf x.kids+1:=⟨_,rfl⟩;let NV:Nat->World->Prop:=fun k w'=>∀ (j:Nat) y,j<k->x.vars[j]? =some y->∃ p vb,A1=some p/\c.M p.block/\At c.w0 198 (p.add j) (.pointer (some (adr vb)))/\PVar c.M c.w0 y vb/\Noted c w' vb;have NVk:∀ {k:Nat} {w1 w2:World},NV k w1->Wk c w1 w2->NV k w2:=fun h hwk j y hj hy=>by
  obtain ⟨p,vb,h1,h2,h3,h4,h5⟩:=h j y hj hy;have hMv:c.M vb:=by
   obtain ⟨_,_,_,_,_,_,hMv,-⟩:=h4;exact hMv
  exact ⟨p,vb,h1,h2,h3,h4,h5.wk hMv hwk⟩
 refine ⟨fun i w1=>0<=i/\i<=L1/\Wr c o4 R [] l w4 ((x.vars.take i.toNat).map .var) w1/\NV i.toNat w1,fun i _=>((L1:Int)-i).toNat,⟨by omega,by omega,by simpa using Wr.refl d4,fun j y hj _=>by simp at hj⟩,?_⟩;rintro i w10 ⟨h0,hi,n10,nv10⟩;refine ⟨fun hlt=>?_,fun hge=>?_⟩
 ·have hlt:=odt hlt;intro K11 hK11;have hmv:=hvars.2.2.2;obtain ⟨y,hx⟩:∃ y,x.vars[i.toNat]? =some y:=⟨_,List.getElem?_eq_getElem (by omega)⟩;obtain ⟨p,v,hpp,hMp,hat,vb,rfl,hpv⟩:=hmv i.toNat y hx;have hmem:=mg_ hx;have key11:∀ w',Wr c o4 R [] l w4 ((x.vars.take i.toNat).map .var++[.var y]) w'->Wk c w10 w'->Noted c w' vb->K11 w':=by
   intro w' n' wk' nt';refine hK11 w' ?_;rw [a_a h0 (by omega)];refine next h0 hlt ⟨?_,fun j y' hj hy'=>?_⟩
   ·rw [show (i+1).toNat=i.toNat+1 by omega,List.take_add_one,hx,List.map_append];exact n'
   ·by_cases hji:j<i.toNat
    ·exact NVk nv10 wk' j y' hji hy'
    ·obtain rfl:j=i.toNat:=by omega
     rw [hx] at hy';obtain rfl:y=y':=by simpa using hy'
     exact ⟨p,vb,hpp,hMp,hat,hpv,nt'⟩
  have hpv':=hpv;obtain ⟨tb,qd,Av,Lv,Cv,posv,hMv,hBv,hty,hdf,hvd⟩:=hpv';refine ⟨p,hpp,⟨h0,hlt⟩,_,by simpa using (n10.st.wk.at (by rw [b_x];exact hMp) hat rfl).cell,fun w15 e15=>?_⟩;have n15:=n10.drew g e15;have wk15:Wk c w10 w15:=((Nst.refl c R w10).drew e15).wk;obtain ⟨z1,z2,z3,z4⟩:=n15.st.sch g;refine ⟨adr c.wb,rfl,_,z1,adr c.sb,rfl,_,z2,adr vb,rfl,_,n15.st.wk.nd hMv hBv (j:=2) rfl rfl,?_⟩;have hokt:=hvt y hmem;refine (a_I y.t tb w15 n15.st.wk hty hokt).mono ?_;rintro _ _ ⟨rfl,rfl⟩;obtain ⟨q25,r25,o25⟩:=z4 (a_w y.t);have nset:=Nst.set (r:=R) n15.st.wk hMv hBv (by rw [g.rk.q _ _ hpv];omega) (o_k hpv o25);have a27:=n15.st.wk.setat hMv hBv (j:=7) (v:=.pointer q25) (by simp);have n27:=n15.nst g nset;obtain ⟨y1,y2⟩:=n27.events 8 rfl;refine ⟨_,rfl,trivial,by simp,q25,r25,adr vb,rfl,n15.st.wk.off hMv hBv (j:=7) (n:=1) (by simp),trivial,trivial,adr c.wb,rfl,_,y1,adr c.eb,rfl,_,_,_,y2,?_⟩;have nt27:Noted c _ vb:=⟨q25,a27,fun z hz=>by rw [k_9 hz hpv];exact o25⟩;have wk27:=wk15.trans nset.wk;refine n27.visit g (ev:=.var y) (j:=8) rfl (by decide) ⟨vb,rfl,hpv,hvt y hmem⟩ (hdoc _ (by simp only [f_j];exact ma_.2 (.inl (ma_.2 (.inl (mm_.2 ⟨y,hmem,rfl⟩)))))) (fun _ _ _ e=>by cases e) fun w27 h27 kk=>?_;have nt:=nt27.wk hMv kk;have kw:=wk27.trans kk;refine ⟨adr vb,rfl,qd,h27.st.wk.nd hMv hBv (j:=3) rfl rfl,fun hs=>?_,fun _=>key11 _ h27 kw nt⟩;cases hdl:y.dflt with
  | nil=>
   rw [hdl] at hdf;rw [show qd=none from hdf] at hs;cases hs
  | cons dv rest=>
   rw [hdl] at hdf;obtain ⟨dvb,rfl,hpdv⟩:=hdf;obtain ⟨kd,rd,Ad,Ld,Cd,posd,hMdv,hBdv⟩:=hpdv.blk;have hrd:c.rank dvb<R:=by
    rw [g.rk.v _ _ hpdv];have:=(f_K hmem).2 dv rest hdl;omega
   intro w45 e45;have m45:=(Nst.refl c R w27).drew e45;have h45:=h27.nst g m45;have m51:=m45.trans (Nst.set h45.st.wk hMdv hBdv hrd (i_w (b:=dvb) (.inr ⟨tb,y.t,rfl,hty⟩)));refine ⟨adr vb,rfl,_,h45.st.wk.nd hMv hBv (j:=3) rfl rfl,adr vb,rfl,_,h45.st.wk.nd hMv hBv (j:=2) rfl rfl,adr dvb,rfl,h45.st.wk.off hMdv hBdv (j:=7) (n:=1) (by simp),trivial,trivial,fun w52 e52=>?_⟩;have m52:=m51.drew e52;have h52:=h27.nst g m52;obtain ⟨z1,z2,z3,z4⟩:=h52.st.sch g;refine ⟨adr vb,rfl,_,h52.st.wk.nd hMv hBv (j:=3) rfl rfl,adr c.wb,rfl,_,z1,adr c.sb,rfl,_,z2,adr vb,rfl,_,h52.st.wk.nd hMv hBv (j:=2) rfl rfl,?_⟩;refine (a_I y.t tb w52 h52.st.wk hty hokt).mono ?_;rintro _ _ ⟨rfl,rfl⟩;obtain ⟨q64,r64,o64⟩:=z4 (a_w y.t);have m65:=m52.trans (Nst.set h52.st.wk hMdv hBdv hrd (i_v (b:=dvb) (GDef.of g o64)));exact ⟨_,rfl,trivial,by simp,q64,r64,adr dvb,rfl,h52.st.wk.off hMdv hBdv (j:=5) (n:=1) (by simp),trivial,trivial,key11 _ (h27.nst g m65) (kw.trans m65.wk) (nt.wk hMv m65.wk)⟩
 ·have hle:=odf hge;rw [tl_ (by omega)] at n10;replace nv10:NV L1 w10:=by
   have:i.toNat=L1:=by omega
   rw [this] at nv10;exact nv10
  intro K67 hK67;have key67:∀ dq loc,GQ c (rootT c x.kind) dq->loc=opLoc x.kind->K67 dq loc w10:=by
   intro dq loc gdq hloc;refine hK67 dq loc w10 ⟨adr ob,rfl,A1,L1,C1,n10.st.wk.nd hM hB (j:=3) rfl rfl,?_⟩;refine ⟨fun i w1=>0<=i/\i<=L1/\Wr c o4 R [] l w4 (x.vars.map .var++(x.vars.take i.toNat).flatMap fun v=>evDef o4.cx v.dflt++evDs o4.cx d_Y v.dirs) w1/\NV L1 w1,fun i _=>((L1:Int)-i).toNat,⟨by omega,by omega,by simpa using n10,nv10⟩,?_⟩;rintro j w76 ⟨k0,kj,n76,nv76⟩;refine ⟨fun klt=>?_,fun kge=>?_⟩
   ·have klt:=odt klt;obtain ⟨p,y,v,hpp,hx,hc,vb,rfl,hpv⟩:=hvars.wget n76.st.wk (fun _=>rfl) k0 klt;have hmem:=mg_ hx;have hpv':=hpv;obtain ⟨tb,qd,Av,Lv,Cv,posv,hMv,hBv,hty,hdf,hvd⟩:=hpv';have hdv:∀ e∈evDef o4.cx y.dflt++evDs o4.cx d_Y y.dirs,o4.D e:=fun e he=>hdoc e (by
     simp only [f_j];exact ma_.2 (.inl (ma_.2 (.inr (mf_.2 ⟨y,hmem,he⟩)))))
    refine ⟨p,hpp,⟨k0,klt⟩,_,hc,fun K79 hK79=>?_⟩;have key79:∀ w',Wr c o4 R [] l w4 (x.vars.map .var++((x.vars.take j.toNat).flatMap fun v=>evDef o4.cx v.dflt++evDs o4.cx d_Y v.dirs)++evDef o4.cx y.dflt) w'->Wk c w76 w'->K79 w':=by
     intro w' n' wk';refine hK79 w' fun w81 e81=>?_;have n81:=n'.drew g e81;have wk81:=wk'.trans ((Nst.refl c R w').drew e81).wk;obtain ⟨q83,hq83,-⟩:=var7 g n81.st.wk hpv;refine ⟨adr vb,rfl,q83,hq83,adr vb,rfl,Av,Lv,Cv,n81.st.wk.nd hMv hBv (j:=4) rfl rfl,?_⟩;refine (n81.then (r2:=rkDs y.dirs+1) (by have:=(f_K hmem).1;omega) fun vs' l' d' _=>a_D g d' hvd fun e he=>hdv e (ma_.2 (.inr he))).mono ?_;rintro _ w87 ⟨rfl,n87,kk⟩;refine ⟨rfl,trivial,trivial,?_⟩;rw [a_a k0 (by omega)];refine next k0 klt ⟨?_,NVk nv76 (wk81.trans kk)⟩
     rw [c_t _ k0 hx];simpa only [List.append_assoc] using n87
    refine ⟨adr vb,rfl,qd,n76.st.wk.nd hMv hBv (j:=3) rfl rfl,fun hs=>?_,fun hs=>key79 _ ?_ (Wk.refl c w76)⟩
    ·cases hdl:y.dflt with
     | nil=>
      rw [hdl] at hdf;rw [show qd=none from hdf] at hs;cases hs
     | cons dv rest=>
      rw [hdl] at hdf key79 hdv;obtain ⟨dvb,rfl,hpdv⟩:=hdf;refine ⟨adr vb,rfl,_,n76.st.wk.nd hMv hBv (j:=3) rfl rfl,(n76.then (r2:=rkV dv+1) (by have:=(f_K hmem).2 dv rest hdl;omega) fun vs' l' d' _=>d_5 g dv dvb w76 o4 vs' l' d' hpdv fun e he=>hdv e (ma_.2 (.inl he))).mono ?_⟩;rintro _ w93 ⟨rfl,n93,kk⟩;exact ⟨rfl,trivial,key79 w93 n93 kk⟩
    ·cases hdl:y.dflt with
     | nil=>simpa [evDef] using n76
     | cons dv rest=>
      rw [hdl] at hdf;obtain ⟨dvb,rfl,hpdv⟩:=hdf;cases hs
   ·have kle:=odf kge;rw [tl_ (by omega)] at n76;refine ⟨adr ob,rfl,A2,L2,C2,n76.st.wk.nd hM hB (j:=4) rfl rfl,?_⟩;subst hloc;refine (n76.then (r2:=rkDs x.dirs+1) (by omega) fun vs' l' d' _=>a_D g d' hdirs fun e he=>hdoc e (ma_.2 (.inr (ma_.2 (.inl he))))).mono ?_;rintro _ w97 ⟨rfl,n97,k97⟩;refine ⟨rfl,trivial,adr ob,rfl,A3,L3,C3,n97.st.wk.nd hM hB (j:=5) rfl rfl,?_⟩;refine (n97.thenJ (r2:=rkL c.rf x.kids+1) (by omega) fun vs' l' d' hv hj'=>e_X g (c.frags.length+1) x.kids A3 L3 C3 (rootT c x.kind) dq w97 o4 vs' l' d' gdq (by omega) hkids (fun e he=>hdoc e (ma_.2 (.inr (ma_.2 (.inr (ma_.2 (.inl he))))))) (hj' _ fun n hn=>by simp at hn)).mono ?_;rintro _ w101 ⟨rfl,n101,k101,s101⟩;have nv101:=NVk nv76 (k97.trans k101);obtain ⟨y1,y2⟩:=n101.events 0 rfl;refine ⟨rfl,trivial,adr c.wb,rfl,_,y1,adr c.eb,rfl,_,_,_,y2,?_⟩;obtain ⟨vs',es1,h101⟩:=id n101;have hus:∀ n,UsedE c x n->UsC c o4 w101 x n:=fun n ⟨ks,hde⟩=>by
     have hdn:∀ n∈vs',Done c o4 w101 es1 vs' n:=fun n hn=>(h101.done n hn).resolve_left (by simp);rcases hde with he|⟨m,f',hr,hf',he⟩
     ·refine (h101.told (.val (.mk 0 n ks) (some x)) ?_).2.2 _ _ _ rfl;rw [hcx4];simp only [evOp,f_j,ma_,List.mem_singleton] at he ⊢;rcases he with (he|he)|he|he|he
      ·exact .inl (.inl (.inl he))
      ·exact .inl (.inl (.inr he))
      ·exact .inl (.inr he)
      ·exact .inr he
      ·cases he
     ·have hn:=l_a okf (fun n hn hi=>by
       obtain ⟨pd',he⟩:=c_L (tys:=c.types) (fs:=c.frags) (cx:=some x) x.kids (rootT c x.kind) hok hn;rw [hi] at he;exact (h101.told _ (ma_.2 (.inr (by rw [hcx4];exact he)))).2.1 _ _ rfl) hdn hr
      exact ((hdn m hn).1 f' hf' (.val (.mk 0 n ks) (some x)) (by rw [hcx4];exact he)).2.2 _ _ _ rfl
    have hsd:SpD c w101 237 ob 5 x.kids:=by
     refine SpD.of (r:=rkL c.rf x.kids) g.rk (fun m hm hi=>?_) (fun m hm=>v_z x.kids hm) (h101.j fun n hn=>by simp at hn) (hB.at (j:=5) rfl) s101;obtain ⟨pd',he⟩:=u_3 (tys:=c.types) (fs:=c.frags) (cx:=o4.cx) x.kids (rootT c x.kind) hm;rw [hi] at he;exact (h101.told _ (ma_.2 (.inr he))).2.1 _ _ rfl
    have hnode:f_i c o4.cx w101 (.pointer (some (adr ob))) (.op x):=by
     refine ⟨hcx4,ob,A1,L1,C1,rfl,hsd,hp,hxo,hoi,n101.st.wk.nd hM hB (j:=3) rfl rfl,hL10,fun n hu y hy=>?_,fun j y hy=>?_⟩
     ·obtain ⟨p,L,C,j,vb,z,k1,k2,k3,k4,-, k6⟩:=hus n hu ob (by rw [<- ho4]) y hy;have e:=k1.cell.symm.trans (hB.at (j:=3) rfl).cell;simp only [Option.some.injEq,Value.slice.injEq] at e;exact ⟨p,j,vb,z,e.1.symm,k2,k3,k4,k6.cell⟩
     have hj:j<L1:=by
      rw [hL10];exact (List.getElem?_eq_some_iff.1 hy).1
     obtain ⟨p,vb,h1,h2,h3,h4,h5⟩:=nv101 j y hj hy;exact ⟨p,vb,h1,(n101.st.wk.at (by rw [b_x];exact h2) h3 rfl).cell,h4,h5,h2,h3,hvt y (mg_ hy)⟩
    refine h101.visit g (ev:=.op x) (j:=0) rfl hnode (hdoc _ (by simp)) (fun m pd e=>by cases e) (fun _ _ _ e=>by cases e) fun w' h' _=>?_;obtain ⟨es,hes⟩:∃ es,es=es1++em o4.ob (.op x):=⟨_,rfl⟩;rw [<- hes] at h';have e:x.vars.map Ev.var++(x.vars.flatMap fun v=>evDef o4.cx v.dflt++evDs o4.cx d_Y v.dirs)++evDs o4.cx (opLoc x.kind) x.dirs++evL c.types c.frags o4.cx (rootT c x.kind) x.kids++[.op x]=evOp c x:=by rw [hcx4];simp [evOp,f_j]
    rw [e] at h';have hall:∀ e,DOp c x e->o.ob.on (slot e)=true->e∈es:=fun e hde ho=>by
     rw [<- hob4] at ho;have hdn:∀ n∈vs',Done c o4 w' es vs' n:=fun n hn=>(h'.done n hn).resolve_left (by simp);rcases hde with he|⟨n,f',hr,hf',he⟩
     ·exact (h'.told e he).1 ho
     ·have hn:=l_a okf (fun n hn hi=>by
       obtain ⟨pd',he⟩:=c_L (tys:=c.types) (fs:=c.frags) (cx:=some x) x.kids (rootT c x.kind) hok hn;rw [hi] at he;exact (h'.told _ (by simp only [evOp,ma_];exact .inr (.inr (.inl he)))).2.1 _ _ rfl) hdn hr
      exact ((hdn n hn).1 f' hf' e (by rw [hcx4];exact he)).1 ho
    have hst:=h'.stp.wp;rw [hvm4] at hst;refine ⟨adr c.wb,rfl,h'.wd.st.walker.off (j:=4) (n:=1) (q:=fun _=>false) (by simp) rfl,trivial,rfl,(p4.trans hst).trans (Wp.set g o.vm w' 4 (.pointer none)),vs',es,?_,fun e he=>?_,hall,?_,es1,by rw [hes,hob4],fun e hde h0 ho=>?_⟩
    ·have:=h'.wd.set4 g none none (fun _=>False) rfl (fun _ _ _ h=>h.elim) fun _ e=>by cases e
     rw [<- ho4] at this;exact this
    ·have:=h'.only e he;rw [hD4,hob4] at this;exact this
    ·have h1:=h'.cap;rw [m_D,hcx4,hob4] at h1;omega
    ·have h1:=hall e hde ho;rw [hes] at h1;rcases ma_.1 h1 with h1|h1
     ·exact h1
     ·unfold em at h1;split at h1
      ·rw [List.mem_singleton.1 h1] at h0;exact absurd rfl h0
      ·simp at h1
  obtain ⟨q1,q2,q3,k1,k2,k3,g1,g2,g3⟩:=n10.st.roots g;obtain ⟨z1,-⟩:=n10.st.sch g;refine ⟨adr ob,rfl,x.kind,n10.st.wk.nd hM hB (j:=1) rfl rfl,fun K121 hK121=>?_⟩;have key121:∀ b:Bool,(b=true↔x.kind=a_5∨x.kind=E0)->K121 b w10:=by
   intro b hb;refine hK121 b w10 ⟨fun h=>⟨adr c.wb,rfl,_,z1,adr c.sb,rfl,q1,k1,key67 q1 _ (by rw [m_9 (hb.1 h)];exact GQ.of g g1) ?_⟩,fun h=>?_⟩
   ·rw [opLoc,if_pos (hb.1 h)]
   have hnb:¬ (x.kind=a_5∨x.kind=E0):=fun k=>by
    rw [hb.2 k] at h;cases h
   refine ⟨fun hm=>⟨adr c.wb,rfl,_,z1,adr c.sb,rfl,q2,k2,key67 q2 _ (by rw [m_8 hnb (a_b.1 hm)];exact GQ.of g g2) ?_⟩,fun hm=>⟨fun hs=>⟨adr c.wb,rfl,_,z1,adr c.sb,rfl,q3,k3,key67 q3 _ (by rw [n_a hnb (a_f.1 hm) (a_b.1 hs)];exact GQ.of g g3) ?_⟩,fun hs=>key67 none _ (by
    have:rootT c x.kind=none:=if_neg fun k=>by
     rcases k with k|k|k|k
     ·exact hnb (.inl k)
     ·exact hnb (.inr k)
     ·exact a_f.1 hm k
     ·exact a_f.1 hs k
    rw [this];exact ⟨rfl,nofun⟩) ?_⟩⟩
   ·rw [opLoc,if_neg hnb,if_pos (a_b.1 hm)]
   ·rw [opLoc,if_neg hnb,if_neg (a_f.1 hm),if_pos (a_b.1 hs)]
   ·rw [opLoc,if_neg hnb,if_neg (a_f.1 hm),if_neg (a_f.1 hs)]
  refine ⟨fun hq=>key121 true ⟨fun _=>.inl (a_b.1 hq),fun _=>rfl⟩,fun hq=>key121 _ ⟨fun h=>.inr (a_b.1 h),fun h=>a_b.2 (h.resolve_left (a_f.1 hq))⟩⟩
mutual
theorem m_6 {rf rf':BA->Nat}:∀ s:Sel,(∀ m∈spS s,rf m=rf' m)->rkS rf s=rkS rf' s
 | .mk k al n on args dirs kids,h=>by
  simp only [spS] at h;rw [rkS,rkS];by_cases h1:k=1
  ·subst h1;rw [if_pos rfl] at h;simp [h n (by simp)]
  ·rw [if_neg h1] at h;rw [g_I kids h,if_neg h1,if_neg h1]
theorem g_I {rf rf':BA->Nat}:∀ l:List Sel,(∀ m∈spL l,rf m=rf' m)->rkL rf l=rkL rf' l
 | [],_=>rfl
 | s::l,h=>by
  simp only [spL,ma_] at h;rw [rkL,rkL,m_6 s fun m hm=>h m (.inl hm),g_I l fun m hm=>h m (.inr hm)]
end
theorem e_b {fs:List Frag}(h:a_h Frag.name fs n=some f):f∈fs/\f.name=n:=a_U h
theorem m_n {fs:List Frag}(h:isFr fs n=true):∃ f,a_h Frag.name fs n=some f:=Option.isSome_iff_exists.1 h
theorem Rch.trans {fs:List Frag}{ks:List Sel}{m:BA}(h:Rch fs ks m)(hf:a_h Frag.name fs m=some f){u:BA}(k:Rch fs f.kids u):Rch fs ks u:=by
 induction k with
 | base h1 h2=>exact .step h hf h1 h2
 | step _ hf' h1 h2 ih=>exact .step ih hf' h1 h2
open Classical in
 noncomputable def reachN (fs:List Frag) (n:BA):Nat:=((fs.map Frag.name).filter fun m=>decide (∃ f,a_h Frag.name fs n=some f/\Rch fs f.kids m)).length
theorem j_m {p q:α->Bool}{x:α}:∀ {l:List α},x∈l->(∀ y∈l,q y=true->p y=true)->p x=true->q x=false->(l.filter q).length<(l.filter p).length
 | y::l,hx,h,hp,hq=>by
  have hle:(l.filter q).length<=(l.filter p).length:=by
   have h':∀ z∈l,q z=true->p z=true:=fun z hz=>h z (List.mem_cons_of_mem _ hz);clear hx h hp hq;induction l with
   | nil=>simp
   | cons z l ih=>
    have:=ih fun u hu=>h' u (List.mem_cons_of_mem _ hu);have hz:=h' z (by simp);rw [List.filter_cons,List.filter_cons];by_cases h1:q z=true
    ·rw [if_pos h1,if_pos (hz h1)];simp only [List.length_cons];omega
    ·rw [if_neg h1];split
     ·simp only [List.length_cons];omega
     ·exact this
  rw [List.filter_cons,List.filter_cons];rcases mc_.1 hx with rfl|hx
  ·rw [if_pos hp,if_neg (by rw [hq];decide),List.length_cons];omega
  ·have ih:=j_m (p:=p) (q:=q) hx (fun z hz=>h z (List.mem_cons_of_mem _ hz)) hp hq;have hy:=h y (by simp);by_cases h1:q y=true
   ·rw [if_pos h1,if_pos (hy h1)];simp only [List.length_cons];omega
   ·rw [if_neg h1];split
    ·simp only [List.length_cons];omega
    ·exact ih
def rfk (fs:List Frag):Nat->BA->Nat
 | 0,_=>0
 | k+1,n=>match a_h Frag.name fs n with
  | none=>0
  | some f=>rkF (rfk fs k) f
theorem f_J {fs:List Frag}(h:a_h Frag.name fs n=none):∀ k,rfk fs k n=0
 | 0=>rfl
 | k+1=>by rw [rfk,h]
open Classical in
theorem l_q {fs:List Frag}(ha:∀ f∈fs,¬ Rch fs f.kids f.name):∃ rf:BA->Nat,∀ n f,a_h Frag.name fs n=some f->rkF rf f<=rf n:=by
 have lt:∀ n f m,a_h Frag.name fs n=some f->m∈spL f.kids->isFr fs m=true->reachN fs m<reachN fs n:=by
  intro n f m hf hm hi;obtain ⟨g,hg⟩:=m_n hi;have hgm:=(e_b hg).2;refine j_m (x:=m) ?_ (fun u _ hu=>?_) ?_ ?_
  ·exact mm_.2 ⟨g,(e_b hg).1,hgm⟩
  ·obtain ⟨g',hg',hr⟩:=odt hu;exact decide_eq_true ⟨f,hf,Rch.trans (.base hm hi) hg' hr⟩
  ·exact decide_eq_true ⟨f,hf,.base hm hi⟩
  ·refine decide_eq_false fun ⟨g',hg',hr⟩=>?_;obtain rfl:g=g':=Option.some.inj (hg.symm.trans hg');exact ha g (e_b hg).1 (by rw [hgm];exact hr)
 have key:∀ k n,reachN fs n<k->rfk fs k n=rfk fs (k+1) n:=by
  intro k;induction k with
  | zero=>intro n h;omega
  | succ k ih=>
   intro n hn;cases hf:a_h Frag.name fs n with
   | none=>rw [f_J hf,f_J hf]
   | some f=>
    have:rkL (rfk fs k) f.kids=rkL (rfk fs (k+1)) f.kids:=g_I f.kids fun m hm=>by
     cases hm':a_h Frag.name fs m with
     | none=>rw [f_J hm',f_J hm']
     | some g=>exact ih m (by have:=lt n f m hf hm (by show (a_h Frag.name fs m).isSome=true;rw [hm'];rfl);omega)
    rw [rfk,rfk,hf];simp only [rkF,this]
 have hK:∀ n,reachN fs n<fs.length+1:=fun n=>by
  have:reachN fs n<=(fs.map Frag.name).length:=List.length_filter_le _ _;rw [List.length_map] at this;exact Nat.lt_succ_of_le this
 refine ⟨rfk fs (fs.length+1),fun n f hf=>?_⟩;have h1:=key (fs.length+1) n (hK n);rw [h1]
 conv=>rhs;rw [rfk,hf]
 exact Nat.le_refl _
abbrev at3 (c:WCtx)(wb fm:Nat)(fl:List (BA × Value)):WCtx:={ c with wb:=wb,fm:=fm,fl:=fl}
structure Wb (c:WCtx) (evs:List Value) (l:List Ev) (w:World):Prop where
 wk:Wk c c.w0 w
 sz:c.w0.heap.size<=w.heap.size
 walker:∃ mv,Blk w c.wb 234 [.pointer (some (adr c.eb)),.pointer (some (adr c.sb)),.pointer (some (adr c.qb)),.map mv,.pointer none,.map (some c.fm)]
 events:Blk w c.eb 152 evs
 frags:SMap w c.fm c.fl/\∀ k,OptR (PFc c) (a_h Frag.name c.frags k) (mget c.fl k)
 ev:c.St l w
abbrev WZ (c:WCtx):Nat->Prop:=fun b=>c.M b∨c.V b∨b=c.wb
abbrev ocOf (ob:Obs)(vm:Nat)(D:Ev->Prop):OC:={ co:=none,cx:=none,vm:=vm,ob:=ob,D:=D}
theorem Wb.fresh (g:Good c)(h:Wb c (evsOf ob) l w)(hv:∀ j,Vis c ob w j){D:Ev->Prop}(hcl:∀ n pd f,D (.spread n true pd)->a_h Frag.name c.frags n=some f->∀ e∈evFr c.types c.frags none f,D e):
  Wd c (ocOf ob w.heap.size D) [] l ((w.alloc (.map #[] 0)).setCell ⟨c.wb,3,none⟩ (.map (some w.heap.size)))/\
  Ext (fun b=>b=c.wb) w ((w.alloc (.map #[] 0)).setCell ⟨c.wb,3,none⟩ (.map (some w.heap.size))):=by
 obtain ⟨mv,hb⟩:=h.walker;have hlt:=hb.lt;have x1:Ext (fun b=>b=c.wb) w (w.alloc (.map #[] 0)):=(Ext.refl w).alloc _;have x1':EF w (w.alloc (.map #[] 0)):=(Ext.refl w).alloc _;have hb1:=hb.ext x1' id;have x2:Ext (fun b=>b=c.wb) (w.alloc (.map #[] 0)) ((w.alloc (.map #[] 0)).setCell ⟨c.wb,3,none⟩ (.map (some w.heap.size))):=Ext.setCell (X:=fun b=>b=c.wb) (Ext.refl _) (a:=⟨c.wb,3,none⟩) (.inl rfl) _;have x:=x1.trans x2 fun _ _ e=>e;have hb2:=hb1.set 3 (.map (some w.heap.size));have hfm:=h.frags.1.lt;have heb:=h.events.lt;have hM:∀ b,c.M b->b<w.heap.size:=fun b hb=>Nat.lt_of_lt_of_le (g.lt b hb) h.sz;have hV:∀ b,c.V b->b<w.heap.size:=fun b hb=>Nat.lt_of_lt_of_le (g.vlt b hb) h.sz;have hv':∀ j,Vis c ob _ j:=fun j=>(hv j).ne x fun T p gg cap ha _ _ e=>by
  have:=hb.at_mem ha e;simp at this
 refine ⟨⟨⟨h.wk.trans (Wk.ofExt x fun b hM e=>g.wb.1 (e▸hM)),lt_ h.sz x.size,hb2,h.events.ext x g.eb.2.2,⟨h.frags.1.ext x g.fm.2.2,h.frags.2⟩,⟨by show w.heap.size≠c.wb;omega,by show w.heap.size≠c.eb;omega,by show w.heap.size≠c.fm;omega,fun e=>absurd (hM _ e) (by simp),fun e=>absurd (hV _ e) (by simp)⟩,rfl⟩,?_,List.nodup_nil,fun n hn=>by simp at hn,g.st l w _ h.ev (x.mono fun b _ e hV=>g.wb.2 (e▸hV)) (Wk.ofExt x fun b hM e=>g.wb.1 (e▸hM)),hv',hcl,fun _ e=>by cases e⟩,x⟩;refine ⟨[],(SMap.made w).ext x2 (by show ¬ w.heap.size=c.wb;omega),fun k=>⟨fun h=>by simp at h,fun _=>rfl⟩⟩
theorem Wd.toWb (h:Wd c o vs l w)(hco:o.co=none):Wb c (evsOf o.ob) l w:=by
 have hw:=h.st.walker;rw [hco] at hw;exact ⟨h.st.wk,h.st.sz,⟨_,hw⟩,h.st.events,h.st.frags,h.ev⟩
def Told (c:WCtx)(ob:Obs)(ops:List OpD)(frags:List Frag)(l:List Ev):Prop:=∃ so sf:List (List Ev),l=so.flatten++sf.flatten/\F2 (SegO c ob) ops so/\F2 (SegF c ob) frags sf
theorem Told.op (h:Told c ob (ops.take i.toNat) [] l)(h0:0<=i)(hx:ops[i.toNat]? =some x)(hs:SegO c ob x es):Told c ob (ops.take (i+1).toNat) [] (l++es):=by
 obtain ⟨so,sf,rfl,h1,h2⟩:=h;cases h2;refine ⟨so++[es],[],by simp,?_,.nil⟩;rw [show (i+1).toNat=i.toNat+1 by omega,List.take_add_one,hx];exact h1.snoc hs
theorem Told.frag {frags:List Frag}{x:Frag}(h:Told c ob ops (frags.take i.toNat) l)(h0:0<=i)(hx:frags[i.toNat]? =some x)(hs:SegF c ob x es):Told c ob ops (frags.take (i+1).toNat) (l++es):=by
 obtain ⟨so,sf,rfl,h1,h2⟩:=h;refine ⟨so,sf++[es],by simp,h1,?_⟩;rw [show (i+1).toNat=i.toNat+1 by omega,List.take_add_one,hx];exact h2.snoc hs
def ptN (c:WCtx)(ob:Obs)(cx:Option OpD):Nat:=(c.frags.map fun f=>cntE ob (evFr c.types c.frags cx f)).sum
def spN (c:WCtx)(ob:Obs)(ops:List OpD)(frags:List Frag):Nat:=(ops.map fun x=>cntE ob (evOp c x)+ptN c ob (some x)).sum+(frags.map fun f=>cntE ob (evFr c.types c.frags none f)+1+ptN c ob none).sum
theorem F2.flen {R:α->List Ev->Prop}{f:α->Nat}{ys:List (List Ev)}(h:F2 R xs ys)(hr:∀ x y,R x y->y.length<=f x):ys.flatten.length<=(xs.map f).sum:=by
 induction h with
 | nil=>simp
 | @cons x y xs ys h1 h2 ih=>
  have:=hr x y h1;simp only [List.flatten_cons,la_,List.map_cons,List.sum_cons];omega
theorem Told.few {frags:List Frag}(h:Told c ob ops frags l):l.length<=spN c ob ops frags:=by
 obtain ⟨so,sf,rfl,h1,h2⟩:=h;have k1:=h1.flen (f:=fun x=>cntE ob (evOp c x)+ptN c ob (some x)) fun x y hs=>hs.few;have k2:=h2.flen (f:=fun f=>cntE ob (evFr c.types c.frags none f)+1+ptN c ob none) fun x y hs=>hs.few;rw [la_,spN];omega
theorem F2.mem {β:Type}{R:α->β->Prop}{ys:List β}(h:F2 R xs ys):(∀ x∈xs,∃ y∈ys,R x y)/\∀ y∈ys,∃ x∈xs,R x y:=by
 induction h with
 | nil=>simp
 | @cons x y xs ys h1 h2 ih=>
  refine ⟨fun u hu=>?_,fun u hu=>?_⟩
  ·rcases mc_.1 hu with rfl|hu
   ·exact ⟨y,by simp,h1⟩
   ·obtain ⟨v,hv,hr⟩:=ih.1 u hu;exact ⟨v,by simp [hv],hr⟩
  ·rcases mc_.1 hu with rfl|hu
   ·exact ⟨x,by simp,h1⟩
   ·obtain ⟨v,hv,hr⟩:=ih.2 u hu;exact ⟨v,by simp [hv],hr⟩
def DocEv (c:WCtx)(e:Ev):Prop:=(∃ x∈c.ops,DOp c x e)∨∃ f∈c.frags,DFr c f e∨e=.frag f
theorem Told.bad (h:Told c ob c.ops c.frags l){bad:Ev->Prop}(hb:∀ e,bad e->ob.on (slot e)=true):(∃ e∈l,bad e)↔∃ e,DocEv c e/\bad e:=by
 obtain ⟨so,sf,rfl,h1,h2⟩:=h;constructor
 ·rintro ⟨e,he,hbad⟩;rcases ma_.1 he with he|he
  ·obtain ⟨es,hes,he⟩:=List.mem_flatten.1 he;obtain ⟨x,hx,hs⟩:=h1.mem.2 es hes;exact ⟨e,.inl ⟨x,hx,(hs.only e he).1⟩,hbad⟩
  ·obtain ⟨es,hes,he⟩:=List.mem_flatten.1 he;obtain ⟨x,hx,⟨es0,rfl,ho,-⟩,-⟩:=h2.mem.2 es hes;rcases ma_.1 he with he|he
   ·exact ⟨e,.inr ⟨x,hx,.inl (ho e he).1⟩,hbad⟩
   ·refine ⟨e,.inr ⟨x,hx,.inr ?_⟩,hbad⟩;unfold em at he;split at he
    ·simpa using he
    ·simp at he
 ·rintro ⟨e,⟨x,hx,he⟩|⟨x,hx,he⟩,hbad⟩
  ·obtain ⟨es,hes,hs⟩:=h1.mem.1 x hx;exact ⟨e,ma_.2 (.inl (List.mem_flatten.2 ⟨es,hes,hs.all e he (hb e hbad)⟩)),hbad⟩
  ·obtain ⟨es,hes,hs⟩:=h2.mem.1 x hx;obtain ⟨es0,rfl,-, ha⟩:=hs.ends;refine ⟨e,ma_.2 (.inr (List.mem_flatten.2 ⟨_,hes,ma_.2 ?_⟩)),hbad⟩;rcases he with he|rfl
   ·exact .inl (ha e he (hb e hbad))
   ·refine .inr ?_;rw [em,if_pos (hb _ hbad)];simp
theorem g_i {nm:α->BA}{x:α}(h0:0<=i)(hx:xs[i.toNat]? =some x)(k:BA):a_h nm (xs.take (i+1).toNat) k=(a_h nm (xs.take i.toNat) k).or (if nm x=k then some x else none):=by
 rw [show (i+1).toNat=i.toNat+1 by omega,List.take_succ,hx];unfold a_h;rw [List.find?_append];by_cases h:nm x=k<;>simp [h]
theorem l_z (g:Good c){w8:World}{A1:OA}{L1 C1:Nat}{l0:List Ev}(hb:Wb c (evsOf ob) l0 w8)(hv:∀ j,Vis c ob w8 j)(hq:d_O c.M c.w0 c.ops c.frags c.qb)(hp:POps c.M c.w0 A1 L1 C1 c.ops)(hqo:At c.w0 303 ⟨c.qb,0,none⟩ (.slice A1 L1 C1))(okf:∀ f∈c.frags,a_z f.kids)(oko:∀ x∈c.ops,a_z x.kids)(hvt:∀ x∈c.ops,∀ v∈x.vars,okTyp v.t)
  (ht:Told c ob [] [] l0) {Q:World->Prop} (hQ:∀ w' l,Wb c (evsOf ob) l w'->(∀ j,Vis c ob w' j)->Ext (WZ c) w8 w'->Told c ob c.ops [] l->Q w'):
  ∃ (I38:Int->World->Prop) (x39:Int->World->Nat),I38 (0:Int) w8/\(∀ n40:Int,∀ wv41:World,I38 n40 wv41->
   (((decide (n40<(L1:Int)))=true->∃ p42:Addr,A1=some p42/\(0<=n40/\n40<(L1:Int))/\∃ q43:OA,wv41.cell? (p42.add (n40.toNat*1))=some (.pointer q43)/\let wv44:=wv41.alloc (.map #[] 0);
    ∃ p45:Addr,(some (adr c.wb))=some p45/\(∃ (cs:Array Value) (T:TypeId),objAt wv44 ((p45.add 3)).block=some (.cells cs T (0,0))/\((p45.add 3)).spot=none/\((p45.add 3)).off+1<=cs.size/\false=false)/\True/\(let wv46:=(wv44.setCell (p45.add 3) (.map (some wv41.heap.size)));
    CP 192 #[.pointer (some (adr c.wb)),.pointer q43] wv46 (fun e47 wv48=>e47=.returned (.tuple #[])/\True/\(I38 (wr (n40+(1:Int))) wv48/\x39 (wr (n40+(1:Int))) wv48<x39 n40 wv41))))/\
   ((decide (n40<(L1:Int)))=false->Q wv41))):=by
 have hL:=hp.1;have hs:=hp.2.2.1;refine ⟨fun i w1=>0<=i/\i<=L1/\∃ l,Wb c (evsOf ob) l w1/\(∀ j,Vis c ob w1 j)/\Ext (WZ c) w8 w1/\Told c ob (c.ops.take i.toNat) [] l,fun i _=>((L1:Int)-i).toNat,⟨by omega,by omega,l0,hb,hv,Ext.refl w8,by simpa using ht⟩,?_⟩;rintro i w1 ⟨h0,hi,l,hb1,hv1,hx1,ht1⟩;refine ⟨fun hlt=>?_,fun hge=>?_⟩
 ·have hlt:=odt hlt;obtain ⟨p,x,v,hpp,hx,hMp,hat,xb,rfl,hpx⟩:=hp.get h0 hlt;have hc:=(hb1.wk.at (by rw [b_x];exact hMp) hat rfl).cell;have hoi:OpIn c x xb:=⟨i.toNat,hx,p,L1,C1,by rw [<- hpp];exact hqo,by simpa using hat⟩;obtain ⟨d2,x2⟩:=hb1.fresh g hv1 (D:=fun _=>False) fun _ _ _ h=>h.elim;obtain ⟨mv,hwb⟩:=hb1.walker;have hmem:=mg_ hx;refine ⟨p,hpp,⟨h0,hlt⟩,_,hc,adr c.wb,rfl,((hwb.ext (X:=fun _=>False) ((Ext.refl w1).alloc _) id).off (j:=3) (n:=1) (q:=fun _=>false) (by simp) rfl),trivial,?_⟩;refine (f_7 g okf (o:=ocOf ob w1.heap.size fun _=>False) d2 hpx hmem hoi (oko x hmem) (hvt x hmem)).mono ?_;rintro _ w' ⟨rfl,s',vs',es,d',hseg⟩;refine ⟨rfl,trivial,?_⟩;rw [a_a h0 (by omega)];refine next h0 hlt ⟨_,d'.toWb rfl,d'.vis,(hx1.trans x2 fun b _ e=>.inr (.inr e)).trans s'.ext fun b hbl e=>?_,ht1.op h0 hx hseg⟩
  rcases e with (e|e|e)|e
  ·exact .inl e
  ·exact .inr (.inl e)
  ·have:=hx1.size;have:b=w1.heap.size:=e;omega
  ·exact .inr (.inr e)
 ·have hle:=odf hge;rw [tl_ (by omega)] at ht1;exact hQ w1 l hb1 hv1 hx1 ht1
theorem j_j (g:Good c){w8:World}{A1:OA}{L1 C1:Nat}{l0:List Ev}(hb:Wb c (evsOf ob) l0 w8)(hv:∀ j,Vis c ob w8 j)(hp:h_r c.M c.w0 A1 L1 C1 c.frags)(okf:∀ f∈c.frags,a_z f.kids)
  (ht:Told c ob c.ops [] l0) {Q:World->Prop} (hQ:∀ w' l,Wb c (evsOf ob) l w'->(∀ j,Vis c ob w' j)->Ext (WZ c) w8 w'->Told c ob c.ops c.frags l->Q w'):
  ∃ (I38:Int->World->Prop) (x39:Int->World->Nat),I38 (0:Int) w8/\(∀ n40:Int,∀ wv41:World,I38 n40 wv41->
   (((decide (n40<(L1:Int)))=true->∃ p42:Addr,A1=some p42/\(0<=n40/\n40<(L1:Int))/\∃ q43:OA,wv41.cell? (p42.add (n40.toNat*1))=some (.pointer q43)/\let wv44:=wv41.alloc (.map #[] 0);
    ∃ p45:Addr,(some (adr c.wb))=some p45/\(∃ (cs:Array Value) (T:TypeId),objAt wv44 ((p45.add 3)).block=some (.cells cs T (0,0))/\((p45.add 3)).spot=none/\((p45.add 3)).off+1<=cs.size/\false=false)/\True/\(let wv46:=(wv44.setCell (p45.add 3) (.map (some wv41.heap.size)));
    CP 193 #[.pointer (some (adr c.wb)),.pointer q43] wv46 (fun e47 wv48=>e47=.returned (.tuple #[])/\True/\(I38 (wr (n40+(1:Int))) wv48/\x39 (wr (n40+(1:Int))) wv48<x39 n40 wv41))))/\
   ((decide (n40<(L1:Int)))=false->Q wv41))):=by
 have hL:=hp.1;have hs:=hp.2.2.1;refine ⟨fun i w1=>0<=i/\i<=L1/\∃ l,Wb c (evsOf ob) l w1/\(∀ j,Vis c ob w1 j)/\Ext (WZ c) w8 w1/\Told c ob c.ops (c.frags.take i.toNat) l,fun i _=>((L1:Int)-i).toNat,⟨by omega,by omega,l0,hb,hv,Ext.refl w8,by simpa using ht⟩,?_⟩;rintro i w1 ⟨h0,hi,l,hb1,hv1,hx1,ht1⟩;refine ⟨fun hlt=>?_,fun hge=>?_⟩
 ·have hlt:=odt hlt;obtain ⟨p,x,v,hpp,hx,hc,xb,rfl,hpx⟩:=hp.wget hb1.wk (fun _=>rfl) h0 hlt;obtain ⟨d2,x2⟩:=hb1.fresh g hv1 (D:=DFr c x) o_Q;obtain ⟨mv,hwb⟩:=hb1.walker;have hmem:=mg_ hx;refine ⟨p,hpp,⟨h0,hlt⟩,_,hc,adr c.wb,rfl,((hwb.ext (X:=fun _=>False) ((Ext.refl w1).alloc _) id).off (j:=3) (n:=1) (q:=fun _=>false) (by simp) rfl),trivial,?_⟩;refine (h_a g okf (o:=ocOf ob w1.heap.size (DFr c x)) d2 rfl rfl hpx hmem).mono ?_;rintro _ w' ⟨rfl,s',vs',es,d',hseg⟩;refine ⟨rfl,trivial,?_⟩;rw [a_a h0 (by omega)];refine next h0 hlt ⟨_,d'.toWb rfl,d'.vis,(hx1.trans x2 fun b _ e=>.inr (.inr e)).trans s'.ext fun b hbl e=>?_,ht1.frag h0 hx hseg⟩
  rcases e with (e|e|e)|e
  ·exact .inl e
  ·exact .inr (.inl e)
  ·have:=hx1.size;have:b=w1.heap.size:=e;omega
  ·exact .inr (.inr e)
 ·have hle:=odf hge;rw [tl_ (by omega)] at ht1;exact hQ w1 l hb1 hv1 hx1 ht1
def FMap (c:WCtx)(w:World)(fm:Nat)(xs:List Frag):Prop:=∃ m,SMap w fm m/\∀ k,OptR (PFc c) (a_h Frag.name xs k) (mget m k)
theorem FMap.put {fm:Nat}{xs:List Frag}{x:Frag}{xb:Nat}(h:FMap c w fm (xs.take i.toNat))(h0:0<=i)(hx:xs[i.toNat]? =some x)(hxs:c.frags=xs){A:OA}{L C:Nat}(hqd:At c.w0 303 ⟨c.qb,1,none⟩ (.slice A L C)){p:Addr}(hA:A=some p)(ha:At c.w0 181 (p.add i.toNat) (.pointer (some (adr xb))))(hp:PFrag c.M c.w0 x xb):
  ∃ (q26:OA) (z27:Bool),(Instr.lookup 232 (.map (some fm)) (.string x.name) true).run Tryz.prog w=.ok (.tuple #[.pointer q26,.bool z27]) w/\
   (z27=true->FMap c w fm (xs.take (i+1).toNat))/\(z27=false->∃ w',(Instr.mapUpdate 232 (.map (some fm)) (.string x.name) (.pointer (some (adr xb)))).run Tryz.prog w=.ok () w'/\FMap c w' fm (xs.take (i+1).toNat)/\Ext (fun b=>b=fm) w w'):=by
 obtain ⟨m,hm,hk⟩:=h;have r:=a_W (t:=232) (kt:=9) (e:=181) (u:=x.name) (i:=Tryz.t181) (by kernel_rfl) (by kernel_rfl) (by kernel_rfl) rfl hm true;obtain ⟨q,hq,-⟩:=(hk x.name).look;refine ⟨q,(mget m x.name).isSome,?_,fun hz=>?_,fun hz=>?_⟩
 ·rw [r];show Result.ok (Value.tuple #[(mget m x.name).getD (.pointer none),.bool (mget m x.name).isSome]) w=_;rw [hq]
 ·refine ⟨m,hm,fun k=>?_⟩;rw [g_i h0 hx];by_cases hxk:x.name=k
  ·subst hxk;have:=hk x.name;cases hf:a_h Frag.name (xs.take i.toNat) x.name with
   | none=>
    rw [hf] at this;cases hg:mget m x.name with
    | none=>rw [hg] at hz;cases hz
    | some v=>rw [hg] at this;exact this.elim
   | some f=>
    rw [hf] at this;exact this
  ·rw [if_neg hxk,Option.or_none];exact hk k
 ·obtain ⟨w',r',m',x'⟩:=b_T (t:=232) (kt:=9) (e:=181) (u:=x.name) (v:=.pointer (some (adr xb))) (by kernel_rfl) (by kernel_rfl) hm;refine ⟨w',r',⟨_,m',fun k=>?_⟩,x'⟩;rw [g_i h0 hx,b_F];by_cases hxk:x.name=k
  ·subst hxk;rw [if_pos rfl,if_pos rfl];have:=hk x.name;cases hf:a_h Frag.name (xs.take i.toNat) x.name with
   | none=>
    refine ⟨xb,rfl,hp,p,L,C,by rw [<- hA];exact hqd,?_⟩;rw [hxs,v_N hf hx rfl];exact ha
   | some f=>
    rw [hf] at this;cases hg:mget m x.name with
    | none=>rw [hg] at this;exact this.elim
    | some v=>rw [hg] at hz;cases hz
  ·rw [if_neg hxk,if_neg (Ne.symm hxk),Option.or_none];exact hk k
theorem Wk.at3 (h:Wk c w w')(wb fm:Nat)(fl:List (BA × Value)):Wk (at3 c wb fm fl) w w':=⟨h.cells,h.maps⟩
structure Ready (c:WCtx) (ob:Obs) (w:World):Prop where
 w0:c.w0=w
 good:∀ wb fm fl,w.heap.size<=wb->w.heap.size<=fm->fm≠wb->Good (at3 c wb fm fl)
 vis:∀ wb fm fl,w.heap.size<=wb->w.heap.size<=fm->fm≠wb->∀ j,Vis (at3 c wb fm fl) ob w j
 events:Blk w c.eb 152 (evsOf ob)
 query:d_O c.M c.w0 c.ops c.frags c.qb
 vars:∀ x∈c.ops,∀ v∈x.vars,okTyp v.t
 oko:∀ x∈c.ops,a_z x.kids
 okf:∀ f∈c.frags,a_z f.kids
 st:c.St [] w
 m:∀ b,c.M b->b<w.heap.size
 v:∀ b,c.V b->b<w.heap.size
abbrev n_2 (c:WCtx)(ob:Obs)(w:World)(e:Ending)(w':World):Prop:=e=.returned (.tuple #[])/\∃ l,c.St l w'/\Told c ob c.ops c.frags l/\Ext (fun b=>c.M b∨c.V b) w w'/\Wk c w w'
theorem e_q {w5:World}(h:Ready c ob w)(hx5:EF w w5)(hB:Blk w5 w.heap.size 234 [.pointer (some (adr c.eb)),.pointer (some (adr c.sb)),.pointer (some (adr c.qb)),.map none,.pointer none,.map none]):
  CP 149 #[.pointer (some (adr w.heap.size))] w5 fun e w'=>n_2 c ob w e w':=by
 have hw0:=h.w0;have hlt5:=hB.lt;have hq:=h.query;obtain ⟨A1,L1,C1,A2,L2,C2,pos,hMq,hBq,hops,hfrags⟩:=hq;rw [hw0] at hBq;have hL2:=hfrags.1;have hs2:=hfrags.2.2.1;have hM:∀ {b},c.M b->b<w.heap.size:=fun {b}=>h.m b;have hBq5:=hBq.ext hx5 id;have x6:EF w5 (w5.alloc (.map #[] 0)):=(Ext.refl w5).alloc _;have hB6:=hB.ext x6 id;have x8:Ext (fun b=>b=w.heap.size) (w5.alloc (.map #[] 0)) ((w5.alloc (.map #[] 0)).setCell ⟨w.heap.size,5,none⟩ (.map (some w5.heap.size))):=Ext.setCell (X:=fun b=>b=w.heap.size) (Ext.refl _) (a:=⟨w.heap.size,5,none⟩) (.inl rfl) _;have hB8:=hB6.set 5 (.map (some w5.heap.size));have hm8:=(SMap.made w5).ext x8 (by show ¬ w5.heap.size=w.heap.size;omega);have hx8:EF w _:=(hx5.then x6).trans x8 fun b hb e=>absurd (show b=w.heap.size from e) (by omega);have hsz8:=x8.size;have hsz6:(w5.alloc (.map #[] 0)).heap.size=w5.heap.size+1:=by simp
 refine e_G (some (adr w.heap.size)) w5 _ ⟨adr w.heap.size,rfl,_,(hB.at (j:=2) rfl).cell,adr c.qb,rfl,A2,L2,C2,(hBq5.at (j:=1) rfl).cell,adr w.heap.size,rfl,hB6.off (j:=5) (n:=1) (q:=fun _=>false) (by simp) rfl,trivial,?_⟩;generalize hw8:(w5.alloc (.map #[] 0)).setCell ((adr w.heap.size).add 5) (.map (some w5.heap.size))=w8;replace hB8:Blk w8 w.heap.size 234 [.pointer (some (adr c.eb)),.pointer (some (adr c.sb)),.pointer (some (adr c.qb)),.map none,.pointer none,.map (some w5.heap.size)]:=by rw [<- hw8];exact hB8
 replace hm8:SMap w8 w5.heap.size []:=by rw [<- hw8];exact hm8
 replace hx8:EF w w8:=by rw [<- hw8];exact hx8
 replace hsz8:w5.heap.size<w8.heap.size:=by
  rw [<- hw8];have:(w5.alloc (.map #[] 0)).heap.size<=((w5.alloc (.map #[] 0)).setCell ((adr w.heap.size).add 5) (.map (some w5.heap.size))).heap.size:=hsz8;omega
 clear hw8 x8 hB6 hsz6 x6;generalize hfm:w5.heap.size=fm at *;have hBq8:=hBq.ext hx8 id;have hfmw:w.heap.size<fm:=by omega
 have hwkc:∀ {w1},Ext (fun b=>b=fm) w8 w1->Wk c c.w0 w1:=fun {w1} x=>by
  rw [hw0];exact Wk.ofExt ((hx8.toM (fun b=>b=fm)).trans x fun _ _ e=>e) fun b hb e=>by
   have:b=fm:=e;have:=hM hb;omega
 refine ⟨adr w.heap.size,rfl,_,(hB8.at (j:=2) rfl).cell,adr c.qb,rfl,A2,L2,C2,(hBq8.at (j:=1) rfl).cell,?_⟩;refine ⟨fun i w1=>0<=i/\i<=L2/\Ext (fun b=>b=fm) w8 w1/\FMap c w1 fm (c.frags.take i.toNat),fun i _=>((L2:Int)-i).toNat,⟨by omega,by omega,Ext.refl w8,[],hm8,fun k=>by simp [a_h,mget,OptR]⟩,?_⟩;rintro i w16 ⟨h0,hi,x16,f16⟩;have hB16:=hB8.ext x16 (by show ¬ w.heap.size=fm;omega);refine ⟨fun hlt=>?_,fun hge=>?_⟩
 ·have hlt:=odt hlt;intro K17 hK17;have key17:∀ w',Ext (fun b=>b=fm) w8 w'->FMap c w' fm (c.frags.take (i+1).toNat)->K17 w':=by
   intro w' x' f';refine hK17 w' ?_;rw [a_a h0 (by omega)];exact next h0 hlt ⟨x',f'⟩
  obtain ⟨p,x,v,hpp,hx,hMp,hat,xb,rfl,hpx⟩:=hfrags.get h0 hlt;have hc:=((hwkc x16).at (by rw [b_x];exact hMp) hat rfl).cell;have hq1:At c.w0 303 ⟨c.qb,1,none⟩ (.slice A2 L2 C2):=by rw [hw0];exact hBq.at (j:=1) rfl
  rw [Nat.mul_one] at hat;have hpx':=hpx;obtain ⟨Af2,Lf2,Cf2,Af3,Lf3,Cf3,posf,hMf,hBf,hfd,hfk⟩:=hpx';refine ⟨p,hpp,⟨h0,hlt⟩,_,hc,fun w21 e21=>?_⟩;have x21:Ext (fun b=>b=fm) w8 w21:=by rw [e21];exact x16.drew
  have d21:EF w16 w21:=by rw [e21];exact (Ext.refl w16).drew
  have f21:FMap c w21 fm (c.frags.take i.toNat):=by
   obtain ⟨m,hm,hk⟩:=f16;exact ⟨m,hm.ext d21 id,hk⟩
  obtain ⟨q26,z27,r26,ht26,hf26⟩:=f21.put h0 hx rfl hq1 hpp hat hpx;have hB21:=hB16.ext d21 id;refine ⟨adr w.heap.size,rfl,_,(hB21.at (j:=5) rfl).cell,adr xb,rfl,_,(hwkc x21).nd hMf hBf (j:=1) rfl rfl,q26,z27,r26,trivial,trivial,fun hz=>?_,fun hz=>key17 w21 x21 (ht26 (by simpa using hz))⟩;intro w28 e28;have x28:Ext (fun b=>b=fm) w8 w28:=by rw [e28];exact x21.drew
  have d28:EF w21 w28:=by rw [e28];exact (Ext.refl w21).drew
  have f28:FMap c w28 fm (c.frags.take i.toNat):=by
   obtain ⟨m,hm,hk⟩:=f21;exact ⟨m,hm.ext d28 id,hk⟩
  obtain ⟨q,z,r,-, hf28⟩:=f28.put h0 hx rfl hq1 hpp hat hpx;have hz':z=false:=by
   have e:w28.drew=w28.drew:=rfl;cases z with
   | false=>rfl
   | true=>
    exfalso;obtain ⟨m,hm,-⟩:=f21;have r1:=a_W (t:=232) (kt:=9) (e:=181) (u:=x.name) (i:=Tryz.t181) (by kernel_rfl) (by kernel_rfl) (by kernel_rfl) rfl hm true;have r2:=a_W (t:=232) (kt:=9) (e:=181) (u:=x.name) (i:=Tryz.t181) (by kernel_rfl) (by kernel_rfl) (by kernel_rfl) rfl (hm.ext d28 id) true;rw [r1] at r26;rw [r2] at r;simp at r26 r;rw [r.2] at r26;rw [<- r26.2] at hz;cases hz
  obtain ⟨w33,r33,f33,x33⟩:=hf28 hz';have hB28:=hB21.ext d28 id;exact ⟨adr w.heap.size,rfl,_,(hB28.at (j:=5) rfl).cell,adr xb,rfl,_,(hwkc x28).nd hMf hBf (j:=1) rfl rfl,w33,r33,trivial,trivial,key17 w33 (x28.trans x33 fun _ _ e=>e) f33⟩
 ·have hle:=odf hge;rw [tl_ (by omega)] at f16;obtain ⟨m,hm,hk⟩:=f16;have g:=h.good w.heap.size fm m (Nat.le_refl _) (by omega) (by omega);have hxx:Ext (fun b=>b=fm) w w16:=(hx8.toM (fun b=>b=fm)).trans x16 fun _ _ e=>e;have hb:Wb (at3 c w.heap.size fm m) (evsOf ob) [] w16:=⟨(hwkc x16).at3 _ _ _,by show c.w0.heap.size<=_;rw [hw0];exact hxx.size,⟨_,hB16⟩,h.events.ext hxx (by have:=h.events.lt;show ¬ c.eb=fm;omega),⟨hm,hk⟩,g.st [] w w16 h.st (hxx.mono fun b _ e hV=>by
   have:b=fm:=e;have:=h.v b hV;omega) (Wk.ofExt hxx fun b hM e=>by
   have:b=fm:=e;have:=h.m b hM;omega)⟩
  have hv:∀ j,Vis (at3 c w.heap.size fm m) ob w16 j:=fun j=>(h.vis w.heap.size fm m (Nat.le_refl _) (by omega) (by omega) j).ne hxx fun T p gg cap ha _ _ e=>by
   have:p.block=fm:=e;obtain ⟨cs,fr,ho,-⟩:=ha;have:=a_3 ho;omega
  have hq16:=(hwkc x16).nd hMq (by rw [hw0];exact hBq) (j:=0) rfl rfl;refine ⟨adr w.heap.size,rfl,_,(hB16.at (j:=2) rfl).cell,adr c.qb,rfl,A1,L1,C1,hq16,?_⟩;refine l_z g hb hv h.query hops (by rw [hw0];exact hBq.at (j:=0) rfl) h.okf h.oko h.vars ⟨[],[],rfl,.nil,.nil⟩ fun w41 l41 hb41 hv41 x41 t41=>?_;obtain ⟨mv,hwb41⟩:=hb41.walker;have hB':Blk c.w0 c.qb 303 [.slice A1 L1 C1,.slice A2 L2 C2,.pointer pos,.pointer none]:=by rw [hw0];exact hBq
  refine ⟨adr w.heap.size,rfl,_,(hwb41.at (j:=2) rfl).cell,adr c.qb,rfl,A2,L2,C2,hb41.wk.nd (c:=at3 c w.heap.size fm m) hMq hB' (j:=1) rfl rfl,?_⟩;refine j_j g hb41 hv41 hfrags h.okf t41 fun w' l' hb' hv' x' t'=>⟨rfl,l',hb'.ev,?_,?_⟩
  ·obtain ⟨so,sf,e,h1,h2⟩:=t';exact ⟨so,sf,e,h1.mono fun x y hs=>⟨hs.only,hs.all,hs.few,hs.ends⟩,h2.mono fun x y hs=>⟨hs.ends,hs.few⟩⟩
  have hX:∀ b,b<w.heap.size->WZ (at3 c w.heap.size fm m) b->c.M b∨c.V b:=fun b hb e=>by
   rcases e with e|e|e
   ·exact .inl e
   ·exact .inr e
   ·have:b=w.heap.size:=e;omega
  have y1:Ext (fun b=>c.M b∨c.V b) w w16:=hxx.mono fun b hb e=>by
   have:b=fm:=e;omega
  refine ⟨(y1.trans x41 hX).trans x' hX,?_⟩;have hwk':=hb'.wk;have e:(at3 c w.heap.size fm m).w0=w:=hw0;rw [e] at hwk';exact ⟨hwk'.cells,hwk'.maps⟩
theorem j_6 (h:Ready c ob w):
  CP 92 #[.pointer (some (adr c.sb)),.pointer (some (adr c.qb)),.pointer (some (adr c.eb))] w fun e w'=>n_2 c ob w e w':=by
 have hB4:=Blk.made w 234 [.pointer none,.pointer none,.pointer none,.map none,.pointer none,.map none];have x4:EF w (w.alloc (.cells #[.pointer none,.pointer none,.pointer none,.map none,.pointer none,.map none] 234)):=(Ext.refl w).alloc _;refine k_t (some (adr c.sb)) (some (adr c.qb)) (some (adr c.eb)) w _ ⟨trivial,trivial,hB4.off (j:=0) (n:=6) (q:=fun _=>false) (by simp) rfl,trivial,?_⟩;have hB5:=(((((hB4.set 0 (.pointer (some (adr c.eb)))).set 1 (.pointer (some (adr c.sb)))).set 2 (.pointer (some (adr c.qb)))).set 3 (.map none)).set 4 (.pointer none)).set 5 (.map none);have st:∀ {w1:World},EF w w1->∀ (j:Nat) (v:Value),EF w (w1.setCell ⟨w.heap.size,j,none⟩ v):=fun {w1} x j v=>Ext.setCell x (a:=⟨w.heap.size,j,none⟩) (.inr (Nat.le_refl _)) v;have x5:=st (st (st (st (st (st x4 0 (.pointer (some (adr c.eb)))) 1 (.pointer (some (adr c.sb)))) 2 (.pointer (some (adr c.qb)))) 3 (.map none)) 4 (.pointer none)) 5 (.map none);refine (e_q h x5 hB5).mono ?_;rintro _ w7 ⟨rfl,h7⟩;exact ⟨rfl,trivial,rfl,h7⟩
end Go.VC
