/- Part of the proof of a law of a rule over documents (WalkB), where what the arguments hold is of bulk at most 1048576. -/
import Derived.Test.YtmnhdjhlcgfpkaaGreatWalkA
set_option linter.unusedVariables false
set_option linter.unusedSectionVars false
namespace Go.VC
open Go Go.Proofs
variable [DB]
variable {α:Type}{n:BA}{ks:List Sel}{cs:List Value}{b m r vm:Nat}{q:OA}{d:Option α}{c:WCtx}{w:World}{P:α->Nat->Prop}
section
variable {tys:List Def} {fs:List Frag} {cx:Option OpD} {pd:Option Def}
theorem m_g {s:Sel}{e:Ev}(h:e∈evS tys fs cx pd s):∀ {l:List Sel},s∈l->e∈evL tys fs cx pd l
 | t::l,hs=>by
  simp only [evL];rcases mc_.1 hs with rfl|hs
  ·exact ma_.2 (.inl h)
  ·exact ma_.2 (.inr (m_g h hs))
theorem n_q {l:List Sel}{i:Int}{x:Sel}(h0:0<=i)(hx:l[i.toNat]? =some x):evL tys fs cx pd (l.take (i+1).toNat)=evL tys fs cx pd (l.take i.toNat)++evS tys fs cx pd x:=by
 have h1:∀ a b,evL tys fs cx pd (a++b)=evL tys fs cx pd a++evL tys fs cx pd b:=by
  intro a b;induction a with
  | nil=>rfl
  | cons s a ih=>simp [evL,ih]
 rw [show (i+1).toNat=i.toNat+1 by omega,List.take_add_one,hx,h1];simp [evL]
end
theorem m_5 {rf:BA->Nat}{s:Sel}:∀ {l:List Sel},s∈l->rkS rf s<=rkL rf l
 | y::l,h=>by
  simp only [rkL];rcases mc_.1 h with rfl|h
  ·omega
  ·have:=m_5 (rf:=rf) h;omega
theorem u_3 {tys:List Def}{fs:List Frag}{cx:Option OpD}:∀ (ks:List Sel) (pd:Option Def),n∈spL ks->∃ pd',Ev.spread n (isFr fs n) pd'∈evL tys fs cx pd ks
 | [],pd,h=>by simp [spL] at h
 | .mk k al nm on args dirs kids::l,pd,h=>by
  simp only [spL,spS,ma_] at h;rcases h with h|h
  ·by_cases hk:k=1
   ·rw [if_pos hk] at h;obtain rfl:n=nm:=by simpa using h
    exact ⟨pd,by simp only [evL,ma_];exact .inl (by simp [evS,hk])⟩
   ·rw [if_neg hk] at h;by_cases hk0:k=0
    ·obtain ⟨pd',he⟩:=u_3 kids (nextD tys pd nm) h;exact ⟨pd',by simp only [evL,ma_];exact .inl (by simp only [evS,if_pos hk0,ma_];exact .inr (.inr (.inl he)))⟩
    ·obtain ⟨pd',he⟩:=u_3 kids (inlD tys pd on) h;exact ⟨pd',by simp only [evL,ma_];exact .inl (by simp only [evS,if_neg hk0,if_neg hk,ma_];exact .inr (.inl he))⟩
  ·obtain ⟨pd',he⟩:=u_3 l pd h;exact ⟨pd',by simp only [evL,ma_];exact .inr he⟩
theorem v_z {rf:BA->Nat}:∀ (ks:List Sel),n∈spL ks->rf n<rkL rf ks
 | [],h=>by simp [spL] at h
 | .mk k al nm on args dirs kids::l,h=>by
  simp only [spL,spS,ma_] at h;simp only [rkL,rkS];rcases h with h|h
  ·by_cases hk:k=1
   ·rw [if_pos hk] at h;obtain rfl:n=nm:=by simpa using h
    rw [if_neg (by omega),if_pos hk];omega
   ·rw [if_neg hk] at h;have:=v_z (rf:=rf) kids h;rw [if_neg hk];split<;>omega
  ·have:=v_z (rf:=rf) l h;omega
theorem v_P {o:OC}{vs:List BA}{l:List Ev}(g:RkOK c)(h0:∀ n∈spL ks,isFr c.frags n=true->n∈vs)(hk:∀ n∈spL ks,c.rf n<r)(hj:Jlo c o r vs l w)(h:Rch c.frags ks n):n∈vs/\c.rf n<r:=by
 induction h with
 | base h1 h2=>exact ⟨h0 _ h1 h2,hk _ h1⟩
 | @step n m f hr hf h1 h2 ih=>
  obtain ⟨pd',he⟩:=u_3 (tys:=c.types) (fs:=c.frags) (cx:=o.cx) f.kids (lastN Def.name c.types f.on) h1;rw [h2] at he;have h3:=g.f n f hf;have h4:=v_z (rf:=c.rf) f.kids h1;simp only [rkF] at h3;exact ⟨((hj n ih.1 ih.2).1 f hf _ (ma_.2 (.inr he))).2.1 _ _ rfl,by omega⟩
theorem SpD.of {o:OC}{vs:List BA}{l:List Ev}{T:TypeId}{j:Nat}{A:OA}{L C:Nat}(g:RkOK c)(h0:∀ n∈spL ks,isFr c.frags n=true->n∈vs)(hk:∀ n∈spL ks,c.rf n<r)(hj:Jlo c o r vs l w)(ha:At c.w0 T ⟨b,j,none⟩ (.slice A L C))(hs:SpL c w A L):SpD c w T b j ks:=
 ⟨fun _ _ _ h=>hs.same ha h,fun n hn=>(hj n (v_P g h0 hk hj hn).1 (v_P g h0 hk hj hn).2).2⟩
abbrev WSel (c:WCtx)(m:Nat)(s:Sel):Prop:=∀ (v:Value) (pd:Option Def) (pq:OA) (w:World) (o:OC) (vs:List BA) (l:List Ev),Wd c o vs l w->GQ c pd pq->c.frags.length<m+vs.length->PSel c.M c.w0 s v->(∀ e∈evS c.types c.frags o.cx pd s,o.D e)->Jlo c o (rkS c.rf s) vs l w->
 CP 219 #[.pointer (some (adr c.wb)),.pointer pq,v] w fun e w'=>e=.returned (.tuple #[])/\Wr c o (rkS c.rf s+1) vs l w (evS c.types c.frags o.cx pd s) w'/\SpO c w' v
abbrev WSels (c:WCtx)(m:Nat)(ks:List Sel):Prop:=∀ (A:OA) (L C:Nat) (pd:Option Def) (pq:OA) (w:World) (o:OC) (vs:List BA) (l:List Ev),Wd c o vs l w->GQ c pd pq->c.frags.length<m+vs.length->PSels c.M c.w0 A L C ks->(∀ e∈evL c.types c.frags o.cx pd ks,o.D e)->Jlo c o (rkL c.rf ks) vs l w->
 CP 208 #[.pointer (some (adr c.wb)),.pointer pq,.slice A L C] w fun e w'=>e=.returned (.tuple #[])/\Wr c o (rkL c.rf ks+1) vs l w (evL c.types c.frags o.cx pd ks) w'/\SpL c w' A L
theorem b_A (g:Good c)(IH:∀ s∈ks,WSel c m s):WSels c m ks:=by
 intro A L C pd pq w o vs l dw gp hm hp hall hj;have hl:=hp.1;have hl2:=hp.2.2.1;refine b_X (some (adr c.wb)) pq A L C w _ ⟨fun i w1=>0<=i/\i<=L/\Wr c o (rkL c.rf ks+1) vs l w (evL c.types c.frags o.cx pd (ks.take i.toNat)) w1/\SpL c w1 A i.toNat,fun i _=>((L:Int)-i).toNat,⟨by omega,by omega,by simpa [evL] using Wr.refl dw,fun _ j _ _ hj=>absurd hj (by simp)⟩,?_⟩;rintro i w7 ⟨h0,hi,hr,hsp⟩;refine ⟨fun hlt=>?_,fun hge=>?_⟩
 ·have hlt:=odt hlt;obtain ⟨p,x,v,hpp,hx,hMp,hat,hps⟩:=hp.get h0 hlt;have hc:=(hr.st.wk.at (by rw [b_x];exact hMp) hat rfl).cell;have hmem:=mg_ hx;have call:=hr.thenJ (need':=evS c.types c.frags o.cx pd x) (Nat.succ_le_succ (m_5 hmem)) fun vs' l' d' hv hj'=>IH x hmem v pd pq w7 o vs' l' d' gp (by omega) hps (fun e he=>hall e (m_g he hmem)) ((hj' _ hj).low (m_5 hmem));have hifc:∃ o9,v=ifcV o9:=by
   cases x;simp only [PSel] at hps;rcases hps with ⟨-, b,_,_,_,_,_,_,_,_,_,pos,rfl,-⟩|⟨-, b,_,_,_,pos,rfl,-⟩|⟨-, b,_,_,_,_,_,_,pos,rfl,-⟩
   ·exact ⟨some (_,_),rfl⟩
   ·exact ⟨some (_,_),rfl⟩
   ·exact ⟨some (_,_),rfl⟩
  obtain ⟨o9,rfl⟩:=hifc;refine ⟨p,hpp,⟨h0,hlt⟩,o9,hc,call.mono ?_⟩;rintro _ w11 ⟨rfl,h11,k11,s11⟩;refine ⟨rfl,trivial,?_⟩;rw [a_a h0 (by omega)];refine next h0 hlt ⟨?_,fun p' j v' hp' hjj hat'=>?_⟩
  ·rw [n_q h0 hx];exact h11
  ·by_cases hji:j<i.toNat
   ·exact (hsp p' j v' hp' hji hat').wk k11
   ·obtain rfl:j=i.toNat:=by omega
    obtain rfl:p=p':=Option.some.inj (hpp.symm.trans hp');rw [Nat.mul_one] at hat;rw [Option.some.inj (hat'.cell.symm.trans hat.cell)];exact s11
 ·have hle:=odf hge;rw [tl_ (by omega)] at hr;exact ⟨rfl,hr,fun p' j v' hp' hjj=>hsp p' j v' hp' (by omega)⟩
def GFld (c:WCtx)(vm:Nat)(d:Option Fld)(q:OA)(w:World):Prop:=match d with
 | none=>q=none
 | some f=>∃ (fb:Nat) (A:OA) (L C tb:Nat),q=some (adr fb)/\a_1 c.M c.w0 A L C f.args/\(∀ y∈f.args,a_s y)/\okTyp f.t/\
  ∀ r w',Stp c vm r w w'->w'.cell? ⟨fb,2,none⟩=some (.slice A L C)/\w'.cell? ⟨fb,4,none⟩=some (.pointer (some (adr tb)))/\((PTyp c.M c.w0 f.t tb)∨(f.t=.mk bStr [] false/\¬ c.V tb/\Blk w' tb 262 [.string bStr,.pointer none,.bool false,.pointer none]))
theorem GFld.nst {d:Option Fld}{w':World}(h:GFld c vm d q w)(n:Stp c vm r w w'):GFld c vm d q w':=by
 cases d with
 | none=>exact h
 | some f=>
  obtain ⟨fb,A,L,C,tb,h1,h2,h3,h4,h5⟩:=h;exact ⟨fb,A,L,C,tb,h1,h2,h3,h4,fun r2 w'' n'=>h5 (max r r2) w'' ((n.mono (Nat.le_max_left ..)).trans (n'.mono (Nat.le_max_right ..)))⟩
theorem GFld.at {d:Option Fld}(h:GFld c vm d q w):FldAt c w d q:=by
 cases d with
 | none=>exact h
 | some f=>
  obtain ⟨fb,A,L,C,tb,h1,h2,h3,h4,h5⟩:=h;obtain ⟨k1,k2,k3⟩:=h5 0 w (Stp.refl c vm 0 w);exact ⟨fb,A,L,C,tb,h1,k1,h2,h3,k2,h4,k3⟩
theorem GFld.real (hwk:Wk c c.w0 w){f:Fld}{fb:Nat}(hp:PFld c.M c.w0 f fb)(hok:okFld f):GFld c vm (some f) (some (adr fb)) w:=by
 obtain ⟨A1,L1,C1,qd,tb,A6,L6,C6,pos6,hMf,hBf,hargs,hdf,hty,hdirs⟩:=hp;refine ⟨fb,A1,L1,C1,tb,rfl,hargs,hok.2.2.2,hok.1,fun r w' n=>?_⟩;have k:=hwk.trans n.wk;exact ⟨k.nd hMf hBf (j:=2) rfl rfl,k.nd hMf hBf (j:=4) rfl rfl,.inl hty⟩
theorem GFld.fresh {fb tb:Nat}(h1:Blk w fb 176 cs)(h2:Blk w tb 262 [.string bStr,.pointer none,.bool false,.pointer none])(c2:cs[2]? =some (.slice none 0 0))(c4:cs[4]? =some (.pointer (some (adr tb))))(n1:¬ WX c vm fb)(n2:¬ WX c vm tb):GFld c vm (some ⟨E0,n,[],[],.mk bStr [] false,[]⟩) (some (adr fb)) w:=by
 refine ⟨fb,none,0,0,tb,rfl,⟨rfl,by omega,by omega,fun i x h=>by simp at h⟩,fun y hy=>by simp at hy,by show bStr≠E0;decide,fun r w' n=>?_⟩;have k1:=h1.ext n.ext n1;have k2:=h2.ext n.ext n2;exact ⟨(k1.at (j:=2) c2).cell,(k1.at (j:=4) c4).cell,.inr ⟨rfl,fun h=>n2 (.inr (.inl h)),k2⟩⟩
theorem At.set_ne {T:TypeId}{j j':Nat}{v v':Value}(h:At w T ⟨b,j,none⟩ v)(hj:j≠j'):At (w.setCell ⟨b,j',none⟩ v') T ⟨b,j,none⟩ v:=by
 obtain ⟨cs,fr,h1,h2,h3⟩:=h;refine ⟨_,fr,a_E (a:=⟨b,j',none⟩) h1 rfl,rfl,?_⟩;show (cs.setIfInBounds j' v')[j]? =some v;rw [Array.getElem?_setIfInBounds_ne (Ne.symm hj)];exact h3
theorem GFld.name {f:Fld}(hwk:Wk c c.w0 w)(h:GFld c vm (some f) q w):∃ fb qt,q=some (adr fb)/\w.cell? ⟨fb,4,none⟩=some (.pointer qt)/\CP 205 #[.pointer qt] w fun e w''=>e=.returned (.string (a_w f.t))/\w''=w:=by
 obtain ⟨fb,A,L,C,tb,h1,h2,h3,h4,h5⟩:=h;obtain ⟨k1,k2,hp|⟨ht,-, hb⟩⟩:=h5 0 w (Stp.refl c vm 0 w)
 ·exact ⟨fb,_,h1,k2,a_I f.t tb w hwk hp h4⟩
 ·refine ⟨fb,_,h1,k2,?_⟩;rw [ht];have c0:=(hb.at (j:=0) rfl).cell;refine b_H (some (adr tb)) w _ ⟨adr tb,rfl,bStr,c0,fun _=>⟨adr tb,rfl,bStr,c0,rfl,rfl⟩,fun h=>?_⟩;exact absurd (b_2 h) (by decide)
theorem OptR.look {v:Option Value}(h:OptR P d v):∃ q,v.getD (.pointer none)=.pointer q/\OptQ P d q:=by
 cases d with
 | none=>
  cases v with
  | none=>exact ⟨none,rfl,rfl⟩
  | some v=>exact h.elim
 | some d=>
  cases v with
  | none=>exact h.elim
  | some v=>
   obtain ⟨b,rfl,hp⟩:=h;exact ⟨_,rfl,b,rfl,hp⟩
theorem OptQ.isSome (h:OptQ P d q):q.isSome=d.isSome:=by
 cases d with
 | none=>rw [show q=none from h];rfl
 | some d=>
  obtain ⟨b,rfl,-⟩:=h;rfl
theorem OptQ.imp {Q:α->Nat->Prop}(h:OptQ P d q)(k:∀ x b,P x b->Q x b):OptQ Q d q:=by
 cases d with
 | none=>exact h
 | some d=>
  obtain ⟨b,e,hp⟩:=h;exact ⟨b,e,k _ _ hp⟩
theorem Wst.flook {cx:Option OpD}{co:OA}{evs:List Value}(h:Wst c cx co vm evs w)(u:BA):∃ q,(Instr.lookup 232 (.map (some c.fm)) (.string u) false).run Tryz.prog w=.ok (.pointer q) w/\OptQ (PFc c) (a_h Frag.name c.frags u) q:=by
 obtain ⟨q,hq,ho⟩:=(h.frags.2 u).look;refine ⟨q,?_,ho⟩;have:=a_W (t:=232) (kt:=9) (e:=181) (u:=u) (i:=Tryz.t181) (by kernel_rfl) (by kernel_rfl) (by kernel_rfl) rfl h.frags.1 false;rw [this];show Result.ok ((mget c.fl u).getD (.pointer none)) w=_;rw [hq]
theorem b_3.spread {v:Value}(h:b_3 c b 183 3 v)(hB:Blk c.w0 b 183 (.string n::cs)):∃ q,v=.pointer q/\OptQ (PFc c) (a_h Frag.name c.frags n) q:=by
 obtain ⟨q,h1,h2⟩:=h.2.2.2.2.2.1 ⟨rfl,rfl⟩;exact ⟨q,h1,h2 n cs hB⟩
theorem o_n (hB:Blk c.w0 b 183 (.string n::cs))(h:OptQ (PFc c) (a_h Frag.name c.frags n) q):b_3 c b 183 3 (.pointer q):=by
 refine ⟨rfl,fun h=>absurd h.1 (by decide),fun h=>absurd h.1 (by decide),fun h=>absurd h.1 (by decide),fun h=>absurd h.1 (by decide),fun _=>⟨q,rfl,fun n' cs' hB'=>?_⟩,fun h=>absurd h.1 (by decide),fun h=>absurd h.1 (by decide),fun h=>absurd h.1 (by decide)⟩;have e:n'=n:=by
  have h1:At c.w0 183 ⟨b,0,none⟩ (.string n):=hB.at (j:=0) rfl;have h2:At c.w0 183 ⟨b,0,none⟩ (.string n'):=hB'.at (j:=0) rfl;have:=h1.cell.symm.trans h2.cell;simpa using this.symm
 rw [e];exact h
theorem k_a (g:Good c)(al n on:BA)(args:List Argm)(dirs:List Dir)(kids:List Sel)(IH:WSels c m kids):WSel c m (.mk 0 al n on args dirs kids):=by
 intro v pd pq w o vs l hw gp hm hp hall hj;have hsp:=hp;have hev:evS c.types c.frags o.cx pd (.mk 0 al n on args dirs kids)=b_B o.cx args++(evDs o.cx l_1 dirs++(evL c.types c.frags o.cx (nextD c.types pd n) kids++[.fld (.mk 0 al n on args dirs kids) pd])):=by simp [evS]
 have hrs:rkS c.rf (.mk 0 al n on args dirs kids)=1+rkDs dirs+(rkAs args+rkL c.rf kids):=by simp [rkS]
 rw [hev] at hall ⊢;simp only [PSel] at hp;rcases hp with ⟨-, b,A1,L1,C1,A2,L2,C2,A3,L3,C3,pos,rfl,hM,hB,hargs,hdirs,hL3,hC3,hs3,hkids⟩|⟨h,-⟩|⟨h,-⟩
 rotate_left
 ·simp at h
 ·simp at h
 have hkids:=PSels'_iff.1 ⟨hL3,hC3,hs3,hkids⟩;have hrb0:=g.rk.s _ _ _ hsp;rw [hrs] at hrb0;rw [hrs];have hrb:c.rank b<1+rkDs dirs+(rkAs args+rkL c.rf kids)+1:=by omega
 rw [hrs] at hj;generalize hR:1+rkDs dirs+(rkAs args+rkL c.rf kids)=R at hrb hrb0 hj ⊢;have hL1:=hargs.2.2.1;have hL10:=hargs.1;refine a_K (some (adr c.wb)) pq (some (155,.pointer (some (adr b)))) w _ fun K4 hK4=>?_;refine ⟨fun u hu=>⟨some (adr b),by cases hu;rfl,hK4 true _ w ⟨fun _=>?_,nofun⟩⟩,fun hn=>absurd rfl (hn _)⟩;intro K8 hK8;have key8:∀ q w',Nst c (R+1) w w'->GFld c o.vm (fldD pd n) q w'->K8 q w':=by
  intro q w' n' gq;have d':=hw.nst g n';have n12:=Nst.set (r:=R+1) (v:=.pointer q) d'.st.wk hM hB hrb (b_Q (T:=167) (j:=7) rfl (by decide) (by decide) (by decide) (by decide) (by decide) (by decide));have a12:=d'.st.wk.setat hM hB (j:=7) (v:=.pointer q) (by simp);have d12:=d'.nst g n12;have n14:=Nst.set (r:=R+1) (v:=.pointer pq) d12.st.wk hM hB hrb (b_Q (T:=167) (j:=8) rfl (by decide) (by decide) (by decide) (by decide) (by decide) (by decide));have a14:=d12.st.wk.setat hM hB (j:=8) (v:=.pointer pq) (by simp);replace a12:=At.set_ne (j':=8) (v':=.pointer pq) a12 (by decide);have d14:=d12.nst g n14;refine hK8 q w' ⟨adr b,rfl,d'.st.wk.off hM hB (j:=7) (n:=1) (by simp),trivial,adr b,rfl,d12.st.wk.off hM hB (j:=8) (n:=1) (by simp),trivial,fun K15 hK15=>?_⟩;have m14:Nst c (R+1) w _:=n'.trans (n12.trans n14);have g14:=gq.nst (n12.trans n14).stp;generalize hw14:((w'.setCell ((adr b).add 7) (.pointer q)).setCell ((adr b).add 8) (.pointer pq))=w14;replace d14:Wd c o vs l w14:=by rw [<- hw14];exact d14
  replace m14:Nst c (R+1) w w14:=by rw [<- hw14];exact m14
  replace g14:GFld c o.vm (fldD pd n) q w14:=by rw [<- hw14];exact g14
  replace a12:At w14 167 ⟨b,7,none⟩ (.pointer q):=by rw [<- hw14];exact a12
  replace a14:At w14 167 ⟨b,8,none⟩ (.pointer pq):=by rw [<- hw14];exact a14
  clear hw14;have key15:∀ qn w17,Nst c R w14 w17->GQ c (nextD c.types pd n) qn->K15 qn w17:=by
   intro qn w17 n17 gqn;have d17:=d14.nst g n17;refine hK15 qn w17 ⟨adr b,rfl,A1,L1,C1,d17.st.wk.nd hM hB (j:=2) rfl rfl,?_⟩;refine ⟨fun i w1=>0<=i/\i<=L1/\Wr c o R vs l w14 (b_B o.cx (args.take i.toNat)) w1,fun i _=>((L1:Int)-i).toNat,⟨by omega,by omega,by simpa [b_B] using (Wr.refl d14).nst g n17⟩,?_⟩;rintro i w23 ⟨h0,hi,n23⟩;have s23:=n23.st;refine ⟨fun hlt=>?_,fun hge=>?_⟩
   ·have hlt:=odt hlt;obtain ⟨p,x,v,hpp,hx,hc,ab,rfl,harg⟩:=hargs.wget s23.wk (fun _=>rfl) h0 hlt;refine ⟨p,hpp,⟨h0,hlt⟩,_,hc,fun K26 hK26=>?_⟩;have key26:∀ q w',Wr c o R vs l w14 (b_B o.cx (args.take i.toNat)) w'->(q=none∨∃ db d,q=some (adr db)/\b_u c.M c.w0 d db/\a_s d)->K26 q w':=by
     intro q w' n' hq;refine hK26 q w' ((n'.then (by have:=i_K (mg_ hx);omega) fun vs' l' d' _=>d_R g d' (fun e he=>hall e ?_) hq harg).mono ?_)
     ·exact ma_.2 (.inl (mf_.2 ⟨x,mg_ hx,he⟩))
     rintro _ w2 ⟨rfl,n2,-⟩;refine ⟨rfl,trivial,?_⟩;rw [a_a h0 (by omega)];refine next h0 hlt ?_
     rw [b_B,c_t _ h0 hx];exact n2
    refine ⟨fun hs=>?_,fun _=>key26 none w23 n23 (.inl rfl)⟩;cases hfd:fldD pd n with
    | none=>
     rw [hfd] at g14;rw [show q=none from g14] at hs;cases hs
    | some f=>
    rw [hfd] at g14;obtain ⟨fb,A,L,C,tb,rfl,hads,hokads,-, hcells⟩:=g14;intro w31 e31;have n31:=n23.drew g e31;have s31:=n31.st;have harg':=harg;obtain ⟨vb2,pos2,hMa,hBa,-⟩:=harg';refine ⟨adr fb,rfl,A,L,C,(hcells R w31 n31.stp).1,adr ab,rfl,_,s31.wk.nd hMa hBa (j:=0) rfl rfl,?_⟩;refine (a_H s31.wk hads).mono ?_;rintro _ _ ⟨q45,rfl,rfl,hq45⟩;exact ⟨q45,rfl,trivial,trivial,trivial,key26 q45 _ n31 (i_2 hokads hq45)⟩
   ·have hle:=odf hge;rw [tl_ (by omega)] at n23;refine ⟨adr b,rfl,A2,L2,C2,s23.wk.nd hM hB (j:=3) rfl rfl,?_⟩;refine (n23.then (r2:=rkDs dirs+1) (by omega) fun vs' l' d' _=>a_D g d' hdirs fun e he=>hall e ?_).mono ?_
    ·exact ma_.2 (.inr (ma_.2 (.inl he)))
    rintro _ w42 ⟨rfl,n42,-⟩;refine ⟨rfl,trivial,adr b,rfl,A3,L3,C3,n42.st.wk.nd hM hB (j:=4) rfl rfl,?_⟩;refine (n42.thenJ (r2:=rkL c.rf kids+1) (by omega) fun vs' l' d' hv hj'=>IH A3 L3 C3 (nextD c.types pd n) qn w42 o vs' l' d' gqn (by omega) hkids (fun e he=>hall e ?_) ((hj' R (hj.wk m14.wk)).low (by omega))).mono ?_
    ·exact ma_.2 (.inr (ma_.2 (.inr (ma_.2 (.inl he)))))
    rintro _ w46 ⟨rfl,h46,k46,s46⟩;obtain ⟨y1,y2⟩:=h46.events 1 rfl;refine ⟨rfl,trivial,adr c.wb,rfl,_,y1,adr c.eb,rfl,_,_,_,y2,?_⟩;have hsd:SpD c w46 167 b 4 (v_K (.mk 0 al n on args dirs kids)):=by
     obtain ⟨vs',es,h46⟩:=id h46;refine SpD.of (ks:=kids) g.rk (fun m hm hi=>?_) (fun m hm=>?_) (h46.j (hj.wk m14.wk)) (hB.at (j:=4) rfl) s46
     ·obtain ⟨pd',he⟩:=u_3 (tys:=c.types) (fs:=c.frags) (cx:=o.cx) kids (nextD c.types pd n) hm;rw [hi] at he;exact (h46.told _ (ma_.2 (.inr he))).2.1 _ _ rfl
     ·have:=v_z (rf:=c.rf) kids hm;omega
    have b12:=h46.stp.lim.cell hM (by omega) a12;have b14:=h46.stp.lim.cell hM (by omega) a14;refine h46.visit g (ev:=.fld (.mk 0 al n on args dirs kids) pd) (j:=1) rfl (by decide) ⟨b,q,pq,rfl,hsp,b12.cell,(g14.nst h46.stp).at,b14.cell,gp.1,gp.2,hsd⟩ (hall _ (by simp)) (fun _ _ _ e=>by cases e) fun w2 h2 k2=>⟨rfl,?_,SpO.fld (s46.wk k2) (hB.at (j:=4) rfl)⟩;have:=h2.after (r:=R+1) (by omega) m14.stp;simpa only [List.append_assoc] using this
  cases hfd:fldD pd n with
  | none=>
   rw [hfd] at g14;obtain rfl:q=none:=g14;exact ⟨nofun,fun _=>key15 none w14 (Nst.refl c R w14) ⟨by show OptQ _ (nextD c.types pd n) _;rw [nextD,hfd];rfl,fun d h=>by rw [nextD,hfd] at h;cases h⟩⟩
  | some f=>
   rw [hfd] at g14;have hq:∃ fb,q=some (adr fb):=by
    obtain ⟨fb,-, -, -, -, h,-⟩:=g14;exact ⟨fb,h⟩
   refine ⟨fun _=>?_,fun h=>by
    obtain ⟨fb,rfl⟩:=hq;cases h⟩
   intro w62 e62;have n62:=(Nst.refl c R w14).drew e62;have d62:=d14.nst g n62;obtain ⟨z1,z2,z3,z4⟩:=d62.st.sch g;obtain ⟨fb,qt,rfl,k4,kcall⟩:=(g14.nst n62.stp).name d62.st.wk;refine ⟨adr c.wb,rfl,_,z1,adr c.sb,rfl,_,z2,adr fb,rfl,_,k4,?_⟩;refine kcall.mono ?_;rintro _ _ ⟨rfl,rfl⟩;obtain ⟨q72,r72,o72⟩:=z4 (a_w f.t);have g72:=GQ.of g o72;have hn:nextD c.types pd n=lastN Def.name c.types (a_w f.t):=by rw [nextD,hfd];rfl
   exact ⟨_,rfl,trivial,by simp,q72,r72,trivial,key15 q72 _ n62 (by rw [hn];exact g72)⟩
 refine ⟨adr b,rfl,n,hw.st.wk.nd hM hB (j:=1) rfl rfl,fun hn=>?_,fun hn=>?_⟩
 ·have hn:=a_b.1 hn;have hfd:fldD pd n=some ⟨E0,n,[],[],.mk bStr [] false,[]⟩:=if_pos hn;refine g_z _ none w _ ⟨trivial,trivial,_,rfl,trivial,trivial,trivial,?_⟩;have x1:EF w _:=(Ext.refl w).alloc (.cells #[.string bStr,.pointer none,.bool false,.pointer none] 262);have x2:=x1.alloc (.cells #[.string ⟨#[]⟩,.string bTn,.slice none 0 0,.pointer none,.pointer (some (adr w.heap.size)),.slice none 0 0,.pointer none,.pointer none,.pointer none] 176);have hsz:∀ b,w.heap.size<=b->¬ WX c o.vm b:=fun b hb hMb=>by
   have:=hw.st.sz;rcases hMb with hMb|hMb|hMb
   ·have:=g.lt b hMb;omega
   ·have:=g.vlt b hMb;omega
   ·obtain ⟨m,hm,-⟩:=hw.vm;have:=hm.lt;omega
  refine key8 _ _ (Nst.of0 x2) ?_;rw [hfd];exact GFld.fresh (Blk.made _ _ _) ((Blk.made w _ _).ext (X:=fun _=>False) ((Ext.refl _).alloc _) id) rfl rfl (hsz _ x1.size) (hsz _ (Nat.le_refl _))
 ·have hn:=a_f.1 hn;have hfd:fldD pd n=pd.bind fun d=>a_h Fld.name d.fields n:=if_neg hn;obtain ⟨gq,gok0⟩:=gp;have gok:∀ d,pd=some d->okDef d:=fun d hd=>g.okt d (gok0 d hd);cases pd with
  | none=>
   obtain rfl:pq=none:=gq;exact ⟨nofun,fun _=>key8 none w (Nst.refl c (R+1) w) (by rw [hfd];rfl)⟩
  | some d=>
   obtain ⟨db,rfl,hpd⟩:=gq;have hokd:=gok d rfl;refine ⟨fun _=>?_,nofun⟩;intro w79 e79;have n79:=(Nst.refl c (R+1) w).drew e79;have d79:=hw.nst g n79;have hpd':=hpd;obtain ⟨_,_,_,_,_,_,Af,Lf,Cf,_,_,_,_,_,_,posd,hMd,hBd,-, -, hflds,-⟩:=hpd';refine ⟨adr db,rfl,Af,Lf,Cf,d79.st.wk.nd hMd hBd (j:=5) rfl rfl,adr b,rfl,n,d79.st.wk.nd hM hB (j:=1) rfl rfl,?_⟩;refine (b_y d79.st.wk hflds).mono ?_;rintro _ _ ⟨q86,rfl,rfl,hq86⟩;refine ⟨q86,rfl,trivial,trivial,trivial,key8 q86 _ n79 ?_⟩;rw [hfd];show GFld c o.vm (a_h Fld.name d.fields n) q86 _;cases hf:a_h Fld.name d.fields n with
   | none=>rw [hf] at hq86;exact hq86
   | some f=>
    rw [hf] at hq86;obtain ⟨fb,rfl,hpf⟩:=hq86;exact GFld.real d79.st.wk hpf (hokd.2.2.1 f (a_U hf).1)
theorem j_h (g:Good c)(al n on:BA)(args:List Argm)(dirs:List Dir)(kids:List Sel)(IH:WSels c m kids):WSel c m (.mk 2 al n on args dirs kids):=by
 intro v pd pq w o vs l hw gp hm hp hall hj;have hsp:=hp;simp only [PSel] at hp;rcases hp with ⟨h,-⟩|⟨h,-⟩|⟨-, b,A2,L2,C2,A3,L3,C3,pos,rfl,hM,hB,hdirs,hL3,hC3,hs3,hkids⟩
 ·simp at h
 ·simp at h
 have hkids:=PSels'_iff.1 ⟨hL3,hC3,hs3,hkids⟩;have hev:evS c.types c.frags o.cx pd (.mk 2 al n on args dirs kids)=evDs o.cx j_0 dirs++(evL c.types c.frags o.cx (inlD c.types pd on) kids++[.inl (.mk 2 al n on args dirs kids) pd]):=by simp [evS]
 have hrs:rkS c.rf (.mk 2 al n on args dirs kids)=1+rkDs dirs+rkL c.rf kids:=by simp [rkS]
 rw [hev] at hall ⊢;have hrb0:=g.rk.s _ _ _ hsp;rw [hrs] at hrb0;rw [hrs];have hrb:c.rank b<1+rkDs dirs+rkL c.rf kids+1:=by omega
 rw [hrs] at hj;generalize hR:1+rkDs dirs+rkL c.rf kids=R at hrb hrb0 hj ⊢;refine a_K (some (adr c.wb)) pq (some (190,.pointer (some (adr b)))) w _ fun K4 hK4=>?_;refine ⟨fun u hu=>absurd hu (by simp),fun _=>hK4 false none w ⟨nofun,fun _=>?_⟩⟩;intro K87 hK87;refine ⟨fun u hu=>⟨some (adr b),by cases hu;rfl,hK87 true _ w ⟨fun _=>?_,nofun⟩⟩,fun hn=>absurd rfl (hn _)⟩;have n92:=Nst.set (r:=R+1) (v:=.pointer pq) hw.st.wk hM hB hrb (b_Q (T:=192) (j:=3) rfl (by decide) (by decide) (by decide) (by decide) (by decide) (by decide));have a92:=hw.st.wk.setat hM hB (j:=3) (v:=.pointer pq) (by simp);have d92:=hw.nst g n92;refine ⟨adr b,rfl,hw.st.wk.off hM hB (j:=3) (n:=1) (by simp),trivial,fun K93 hK93=>?_⟩;have key93:∀ qn w95,Nst c R (w.setCell ⟨b,3,none⟩ (.pointer pq)) w95->GQ c (inlD c.types pd on) qn->K93 qn w95:=by
  intro qn w95 n95 gqn;have r95:Wr c o R vs l (w.setCell ⟨b,3,none⟩ (.pointer pq)) [] w95:=(Wr.refl d92).nst g n95;refine hK93 qn w95 ⟨adr b,rfl,A2,L2,C2,r95.st.wk.nd hM hB (j:=1) rfl rfl,?_⟩;refine (r95.then (r2:=rkDs dirs+1) (by omega) fun vs' l' d' _=>a_D g d' hdirs fun e he=>hall e ?_).mono ?_
  ·exact ma_.2 (.inl he)
  rintro _ w99 ⟨rfl,n99,-⟩;refine ⟨rfl,trivial,adr b,rfl,A3,L3,C3,n99.st.wk.nd hM hB (j:=2) rfl rfl,?_⟩;refine (n99.thenJ (r2:=rkL c.rf kids+1) (by omega) fun vs' l' d' hv hj'=>IH A3 L3 C3 (inlD c.types pd on) qn w99 o vs' l' d' gqn (by omega) hkids (fun e he=>hall e ?_) ((hj' R (hj.wk n92.wk)).low (by omega))).mono ?_
  ·exact ma_.2 (.inr (ma_.2 (.inl he)))
  rintro _ w103 ⟨rfl,h103,k103,s103⟩;obtain ⟨y1,y2⟩:=h103.events 3 rfl;refine ⟨rfl,trivial,adr c.wb,rfl,_,y1,adr c.eb,rfl,_,_,_,y2,?_⟩;have b92:=h103.stp.lim.cell hM (by omega) a92;refine h103.visit g (ev:=.inl (.mk 2 al n on args dirs kids) pd) (j:=3) rfl (by decide) ⟨b,pq,rfl,hsp,b92.cell,gp.1⟩ (hall _ (by simp)) (fun _ _ _ e=>by cases e) fun w2 h2 k2=>⟨rfl,?_,SpO.inl (s103.wk k2) (hB.at (j:=2) rfl)⟩;have:=h2.after (r:=R+1) (by omega) n92.stp;simpa only [List.append_assoc,List.nil_append] using this
 refine ⟨adr b,rfl,on,d92.st.wk.nd hM hB (j:=0) rfl rfl,fun hon=>?_,fun hon=>key93 pq _ (Nst.refl c R _) (by rw [inlD,if_pos (b_2 hon)];exact gp)⟩;intro w121 e121;have n121:=(Nst.refl c R (w.setCell ⟨b,3,none⟩ (.pointer pq))).drew e121;have d121:=d92.nst g n121;obtain ⟨z1,z2,z3,z4⟩:=d121.st.sch g;obtain ⟨q128,r128,o128⟩:=z4 on;have g128:=GQ.of g o128;exact ⟨adr c.wb,rfl,_,z1,adr c.sb,rfl,_,z2,adr b,rfl,_,d121.st.wk.nd hM hB (j:=0) rfl rfl,q128,r128,trivial,key93 q128 _ n121 (by rw [inlD,if_neg (g_r hon)];exact g128)⟩
theorem j_i (g:Good c)(al n on:BA)(args:List Argm)(dirs:List Dir)(kids:List Sel)(IHm:∀ m',m=m'+1->∀ f∈c.frags,WSels c m' f.kids):WSel c m (.mk 1 al n on args dirs kids):=by
 intro v pd pq w o vs l hw gp hm hp hall hj;have hsp:=hp;simp only [PSel] at hp;rcases hp with ⟨h,-⟩|⟨-, b,A2,L2,C2,pos,rfl,hM,hB,hdirs⟩|⟨h,-⟩
 ·simp at h
 rotate_left
 ·simp at h
 have hev:evS c.types c.frags o.cx pd (.mk 1 al n on args dirs kids)=evDs o.cx h_9 dirs++[.spread n (isFr c.frags n) pd]:=by simp [evS]
 have hrs:rkS c.rf (.mk 1 al n on args dirs kids)=1+rkDs dirs+c.rf n:=by simp [rkS]
 rw [hev] at hall ⊢;have hrb0:=g.rk.s _ _ _ hsp;rw [hrs] at hrb0;rw [hrs];have hrb:c.rank b<1+rkDs dirs+c.rf n+1:=by omega
 have hrf:=g.rk.f n;rw [hrs] at hj;generalize hR:1+rkDs dirs+c.rf n=R at hrb hrb0 hj ⊢;refine a_K (some (adr c.wb)) pq (some (180,.pointer (some (adr b)))) w _ fun K4 hK4=>?_;refine ⟨fun u hu=>absurd hu (by simp),fun _=>hK4 false none w ⟨nofun,fun _=>?_⟩⟩;intro K87 hK87;refine ⟨fun u hu=>absurd hu (by simp),fun _=>hK87 false none w ⟨nofun,fun _=>?_⟩⟩;intro K129 hK129;refine ⟨fun u hu=>⟨some (adr b),by cases hu;rfl,hK129 true _ w ⟨fun _=>?_,nofun⟩⟩,fun hn=>absurd rfl (hn _)⟩;intro w133 e133;have n133:=(Nst.refl c (R+1) w).drew e133;have d133:=hw.nst g n133;obtain ⟨q138,r138,o138⟩:=d133.st.flook n;have n140:=Nst.set (r:=R+1) (v:=.pointer q138) d133.st.wk hM hB hrb (o_n hB o138);have a140:=d133.st.wk.setat hM hB (j:=3) (v:=.pointer q138) (by simp);have d140:=d133.nst g n140;have n142:=Nst.set (r:=R+1) (v:=.pointer pq) d140.st.wk hM hB hrb (b_Q (T:=183) (j:=2) rfl (by decide) (by decide) (by decide) (by decide) (by decide) (by decide));have a142:=d140.st.wk.setat hM hB (j:=2) (v:=.pointer pq) (by simp);have b140:=At.set_ne (j':=2) (v':=.pointer pq) a140 (by decide);have d142:=d140.nst g n142;refine ⟨adr c.wb,rfl,_,(d133.st.walker.at (j:=5) rfl).cell,adr b,rfl,n,d133.st.wk.nd hM hB (j:=0) rfl rfl,q138,r138,trivial,adr b,rfl,d133.st.wk.off hM hB (j:=3) (n:=1) (by simp),trivial,adr b,rfl,d140.st.wk.off hM hB (j:=2) (n:=1) (by simp),trivial,fun K143 hK143=>?_⟩;have m142:Nst c (R+1) w _:=n133.trans (n140.trans n142);generalize hw142:((w133.setCell ((adr b).add 3) (.pointer q138)).setCell ((adr b).add 2) (.pointer pq))=w142;replace d142:Wd c o vs l w142:=by rw [<- hw142];exact d142
 replace m142:Nst c (R+1) w w142:=by rw [<- hw142];exact m142
 replace a142:At w142 183 ⟨b,2,none⟩ (.pointer pq):=by rw [<- hw142];exact a142
 replace b140:At w142 183 ⟨b,3,none⟩ (.pointer q138):=by rw [<- hw142];exact b140
 clear hw142 n142 a140 n140 d140;have hfr:isFr c.frags n=(a_h Frag.name c.frags n).isSome:=rfl;have key143:∀ qn w145,Nst c R w142 w145->(∀ f,a_h Frag.name c.frags n=some f->GQ c (lastN Def.name c.types f.on) qn)->K143 qn w145:=by
  intro qn w145 n145 gqn;have r145:Wr c o R vs l w142 [] w145:=(Wr.refl d142).nst g n145;refine hK143 qn w145 ⟨adr b,rfl,A2,L2,C2,r145.st.wk.nd hM hB (j:=1) rfl rfl,?_⟩;refine (r145.then (r2:=rkDs dirs+1) (by omega) fun vs' l' d' _=>a_D g d' hdirs fun e he=>hall e (ma_.2 (.inl he))).mono ?_;rintro _ w149 ⟨rfl,n149,-⟩;refine ⟨rfl,trivial,fun K150 hK150 K167 hK167=>?_⟩;have key150:∀ w151 vs2 es2,WrC c o R vs l w142 (evDs o.cx h_9 dirs) w151 vs2 es2->((a_h Frag.name c.frags n).isSome=true->n∈vs2)->K150 w151:=by
   intro w151 vs2 es2 h151 hin;obtain ⟨y1,y2⟩:=Wr.events ⟨vs2,es2,h151⟩ 4 rfl;refine hK150 w151 ⟨adr c.wb,rfl,_,y1,adr c.eb,rfl,_,_,_,y2,?_⟩;have c3:=h151.stp.lim.cell hM (by omega) b140;have c2:=h151.stp.lim.cell hM (by omega) a142;refine h151.visit g (ev:=.spread n (isFr c.frags n) pd) (j:=4) rfl ⟨b,q138,pq,_,_,_,_,rfl,hM,hB,c3.cell,o138.imp fun _ _ h=>h.1,hfr,c2.cell,gp.1⟩ (hall _ (by simp)) (fun m pd' e=>?_) (fun _ _ _ e=>by cases e) fun w2 h2 k2=>⟨rfl,?_,SpO.here (NS.wk ⟨hM,q138,c3,fun n' cs' hB'=>?_⟩ k2)⟩
   ·simp only [Ev.spread.injEq] at e;rw [<- e.1];exact hin (by rw [<- hfr];exact e.2.1)
   ·exact Wr.after (r:=R+1) ⟨_,_,h2⟩ (by omega) m142.stp
   ·have e:n'=n:=by simpa using (hB'.at (j:=0) rfl).cell.symm.trans (hB.at (j:=0) rfl).cell
    rw [e];exact o138
  intro w184 e184;have n184:=n149.drew g e184;obtain ⟨vs1,es1,h184⟩:=n184;cases hfn:a_h Frag.name c.frags n with
  | none=>
   rw [hfn] at o138;obtain rfl:q138=none:=o138;exact ⟨nofun,fun _=>hK167 false w184 ⟨nofun,fun _=>key150 w184 vs1 es1 h184 fun h=>by rw [hfn] at h;cases h⟩⟩
  | some f=>
   have o138':=o138;rw [hfn] at o138';obtain ⟨fb,hqf,⟨Af2,Lf2,Cf2,Af3,Lf3,Cf3,posf,hMf,hBf,hfd,hfk⟩,hat⟩:=o138';obtain ⟨hfm,hfname⟩:=a_U hfn;rw [hfname] at hat;have d184:=h184.wd;have hrk:=hrf f hfn;obtain ⟨z,r189,hz⟩:=d184.vm.look f.name;refine ⟨fun _=>⟨adr c.wb,rfl,_,(d184.st.walker.at (j:=3) rfl).cell,adr fb,hqf,f.name,d184.st.wk.nd hMf hBf (j:=1) rfl rfl,z,r189,?_⟩,fun h=>by rw [hqf] at h;cases h⟩;refine hK167 (!z) w184 ⟨fun hb=>?_,fun hb=>key150 w184 vs1 es1 h184 fun _=>hfname▸hz.1 (by simpa using hb)⟩;have hnew:f.name∉vs1:=fun hm=>by
    rw [hz.2 hm] at hb;cases hb
   intro w170 e170;have n170:=(Nst.refl c R w184).drew e170;have d170:=d184.nst g n170;have hfmem:f.name∈c.frags.map Frag.name:=mm_.2 ⟨f,hfm,rfl⟩;obtain ⟨w175,r175,d175,s175⟩:=d170.put (r:=R) g hnew hfmem;have hdocf:∀ e∈evFr c.types c.frags o.cx f,o.D e:=hw.cl n pd f (hall (.spread n true pd) (by rw [hfr,hfn];simp)) hfn;refine ⟨adr c.wb,rfl,_,(d170.st.walker.at (j:=3) rfl).cell,adr fb,hqf,f.name,d170.st.wk.nd hMf hBf (j:=1) rfl rfl,w175,r175,trivial,trivial,adr fb,hqf,Af2,Lf2,Cf2,d175.st.wk.nd hMf hBf (j:=4) rfl rfl,?_⟩;refine (a_D g d175 hfd fun e he=>hdocf e (ma_.2 (.inl he))).mono ?_;rintro _ w179 ⟨rfl,n179⟩;refine ⟨rfl,trivial,adr fb,hqf,Af3,Lf3,Cf3,n179.st.wk.nd hMf hBf (j:=5) rfl rfl,?_⟩;have hlen:(f.name::vs1).length<=c.frags.length:=by
    have:=c_K d175.nd d175.sub;simpa using this
   have hl1:=h184.len;cases m with
   | zero=>
    simp only [List.length_cons] at hlen;omega
   | succ m'=>
    have n179':Wr c o R (f.name::vs1) (l++es1) w175 (evDs o.cx d_z f.dirs) w179:=n179.after (by simp only [rkF] at hrk;omega) (Stp.refl c o.vm R w175);have j175:Jlo c o (rkL c.rf f.kids) (f.name::vs1) (l++es1) w175:=fun u hu hr=>by
     rcases mc_.1 hu with rfl|hu
     ·simp only [rkF] at hrk;rw [hfname] at hr;omega
     ·exact (h184.j (hj.wk m142.wk) u hu (by simp only [rkF] at hrk;omega)).mono (fun _ h=>h) (fun _ h=>List.mem_cons_of_mem _ h) (n170.wk.trans s175.wk)
    refine (n179'.thenJ (r2:=rkL c.rf f.kids+1) (by simp only [rkF] at hrk;omega) fun vs' l' d' hv hj'=>IHm m' rfl f hfm Af3 Lf3 Cf3 _ qn w179 o vs' l' d' (gqn f hfn) (by simp only [List.length_cons] at hv;omega) hfk (fun e he=>hdocf e (ma_.2 (.inr he))) (hj' _ j175)).mono ?_;rintro _ w183 ⟨rfl,⟨vs2,es2,h183⟩,-, s183⟩;have hpot:=o_r (c:=c) (o:=o) hfm hnew;have hcap1:=h184.cap;have hcap2:=h183.cap;have hlen2:=h183.len;have e1:∀ e∈es1,e∈es1++es2:=fun e he=>ma_.2 (.inl he);have e2:∀ e∈es2,e∈es1++es2:=fun e he=>ma_.2 (.inr he);have hsub:∀ u∈vs1,u∈vs2:=fun u hu=>h183.sub u (List.mem_cons_of_mem _ hu);refine ⟨rfl,trivial,key150 w183 vs2 (es1++es2) ⟨h184.stp.trans (n170.stp.trans (s175.trans h183.stp)),by rw [<- List.append_assoc];exact h183.wd,by simp only [List.length_cons] at hlen2;omega,fun u hu=>hsub u (h184.sub u hu),fun u hu=>?_,fun e he=>(ma_.1 he).elim (h184.only e) (h183.only e),fun e he=>?_,?_⟩ fun _=>hfname▸h183.sub _ (List.mem_cons_self ..)⟩
    ·rcases h183.done u hu with hu|hu
     ·rcases mc_.1 hu with rfl|hu
      ·refine .inr ⟨fun f' hf' e he=>?_,fun b' A' L' C' hb' ha'=>?_⟩
       ·rw [hfname,hfn] at hf';obtain rfl:f=f':=Option.some.inj hf';exact (h183.told e he).mono e2 (fun _ h=>h) (Wk.refl c _)
       ·rw [hfname] at hb';obtain rfl:=hat.uniq hb';exact s183.same (hBf.at (j:=5) rfl) ha'
      ·exact (h184.done u hu).imp id fun hd=>hd.mono e1 hsub (n170.stp.trans (s175.trans h183.stp)).wk
     ·exact .inr (hu.mono e2 (fun _ h=>h) (Wk.refl c _))
    ·exact (h184.told e (by simpa using he)).mono e1 hsub (n170.stp.trans (s175.trans h183.stp)).wk
    ·have:cntE o.ob (evDs o.cx d_z f.dirs++evL c.types c.frags o.cx (lastN Def.name c.types f.on) f.kids)=cntE o.ob (evFr c.types c.frags o.cx f):=rfl;simp only [List.nil_append] at hcap1;rw [la_];omega
 refine ⟨fun hs=>?_,fun hs=>key143 none _ (Nst.refl c R w142) fun f hf=>?_⟩
 ·cases hfn:a_h Frag.name c.frags n with
  | none=>
   rw [hfn] at o138;rw [show q138=none from o138] at hs;cases hs
  | some f=>
   have o138':=o138;rw [hfn] at o138';obtain ⟨fb,hqf,⟨Af2,Lf2,Cf2,Af3,Lf3,Cf3,posf,hMf,hBf,hfd,hfk⟩,-⟩:=o138';intro w190 e190;have n190:=(Nst.refl c R w142).drew e190;have d190:=d142.nst g n190;obtain ⟨z1,z2,z3,z4⟩:=d190.st.sch g;obtain ⟨q197,r197,o197⟩:=z4 f.on;exact ⟨adr c.wb,rfl,_,z1,adr c.sb,rfl,_,z2,adr fb,hqf,f.on,d190.st.wk.nd hMf hBf (j:=3) rfl rfl,q197,r197,trivial,key143 q197 _ n190 fun f' hf'=>by
    obtain rfl:f=f':=Option.some.inj (hfn.symm.trans hf');exact GQ.of g o197⟩
 ·rw [hf] at o138;obtain ⟨fb,hqf,-⟩:=o138;rw [hqf] at hs;cases hs
theorem d_4 (g:Good c)(IHm:∀ m',m=m'+1->∀ f∈c.frags,WSels c m' f.kids):∀ s,WSel c m s
 | .mk k al n on args dirs kids=>by
  have IH:WSels c m kids:=b_A g fun s hs=>d_4 g IHm s;intro v pd pq w o vs l hw gp hm hp hall hj;have hk:k=0∨k=1∨k=2:=by
   have hp':=hp;simp only [PSel] at hp';rcases hp' with ⟨h,-⟩|⟨h,-⟩|⟨h,-⟩<;>simp [h]
  rcases hk with rfl|rfl|rfl
  ·exact k_a g al n on args dirs kids IH v pd pq w o vs l hw gp hm hp hall hj
  ·exact j_i g al n on args dirs kids IHm v pd pq w o vs l hw gp hm hp hall hj
  ·exact j_h g al n on args dirs kids IH v pd pq w o vs l hw gp hm hp hall hj
 termination_by s=>SizeOf.sizeOf s
 decreasing_by
 have:=List.sizeOf_lt_of_mem hs;simp;omega
theorem e_X (g:Good c):∀ (m:Nat) (ks:List Sel),WSels c m ks
 | 0,ks=>b_A g fun s _=>d_4 g (fun m' h=>by omega) s
 | m+1,ks=>b_A g fun s _=>d_4 g (fun m' h f hf=>by
   obtain rfl:m=m':=by omega
   exact e_X g m f.kids) s
end Go.VC
