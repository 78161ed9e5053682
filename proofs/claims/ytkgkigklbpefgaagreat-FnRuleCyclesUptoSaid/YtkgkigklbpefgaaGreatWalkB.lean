/- Part of the proof of a law of a rule over documents (WalkB), where what the arguments hold is of bulk at most 1048576. -/
import Derived.Test.YtkgkigklbpefgaaGreatWalkA
set_option linter.unusedVariables false
set_option linter.unusedSimpArgs false
set_option linter.unusedSectionVars false
namespace Go.VC
open Go Go.Proofs
variable [DB]
variable {cs:List Value}{b m vm:Nat}{q:OA}{c:WCtx}{w:World}
theorem Wk.setat (hwk:Wk c c.w0 w){T:TypeId}(hM:c.M b)(hB:Blk c.w0 b T cs){j:Nat}{v:Value}(hj:j<cs.length):At (w.setCell ⟨b,j,none⟩ v) T ⟨b,j,none⟩ v:=by
 obtain ⟨cs',h1,h2,h3⟩:=hwk.cells _ _ _ _ hM hB;have:=a_E (v:=v) (a:=⟨b,j,none⟩) h1 rfl;have hsz:j<cs'.size:=by rw [h2];simpa using hj
 exact ⟨_,_,this,rfl,by simp [Array.getElem?_setIfInBounds,hsz]⟩
theorem m_g {fs:List Frag}{s:Sel}{e:Ev}(h:e∈evS fs s):∀ {l:List Sel},s∈l->e∈evL fs l
 | t::l,hs=>by
  simp only [evL];rcases mc_.1 hs with rfl|hs
  ·exact ma_.2 (.inl h)
  ·exact ma_.2 (.inr (m_g h hs))
theorem n_q {fs:List Frag}{l:List Sel}{i:Int}{x:Sel}(h0:0<=i)(hx:l[i.toNat]? =some x):evL fs (l.take (i+1).toNat)=evL fs (l.take i.toNat)++evS fs x:=by
 have h1:∀ a b,evL fs (a++b)=evL fs a++evL fs b:=by
  intro a b;induction a with
  | nil=>rfl
  | cons s a ih=>simp [evL,ih]
 rw [show (i+1).toNat=i.toNat+1 by omega,List.take_add_one,hx,h1];simp [evL]
abbrev WSel (c:WCtx)(m:Nat)(s:Sel):Prop:=∀ (v:Value) (pq:OA) (w:World) (o:OC) (vs:List BA) (l:List Ev),Wd c o vs l w->GDef c pq->c.frags.length<m+vs.length->PSel c.M c.w0 s v->(∀ e∈evS c.frags s,DocEv c e)->
 CP 220 #[.pointer (some (adr c.wb)),.pointer pq,v] w fun e w'=>e=.returned (.tuple #[])/\Wr c o vs l w (evS c.frags s) w'
abbrev WSels (c:WCtx)(m:Nat)(ks:List Sel):Prop:=∀ (A:OA) (L C:Nat) (pq:OA) (w:World) (o:OC) (vs:List BA) (l:List Ev),Wd c o vs l w->GDef c pq->c.frags.length<m+vs.length->PSels c.M c.w0 A L C ks->(∀ e∈evL c.frags ks,DocEv c e)->
 CP 208 #[.pointer (some (adr c.wb)),.pointer pq,.slice A L C] w fun e w'=>e=.returned (.tuple #[])/\Wr c o vs l w (evL c.frags ks) w'
theorem b_A (g:Good c){ks:List Sel}(IH:∀ s∈ks,WSel c m s):WSels c m ks:=by
 intro A L C pq w o vs l dw gp hm hp hall;have hl:=hp.1;have hl2:=hp.2.2.1;refine b_X (some (adr c.wb)) pq A L C w _ ⟨fun i w1=>0<=i/\i<=L/\Wr c o vs l w (evL c.frags (ks.take i.toNat)) w1,fun i _=>((L:Int)-i).toNat,⟨by omega,by omega,by simpa [evL] using Wr.refl dw⟩,?_⟩;rintro i w7 ⟨h0,hi,hr⟩;refine ⟨fun hlt=>?_,fun hge=>?_⟩
 ·have hlt:=odt hlt;obtain ⟨p,x,v,hpp,hx,hc,hps⟩:=hp.wget hr.st.wk (fun _=>rfl) h0 hlt;have hmem:=mg_ hx;have call:=hr.then (need':=evS c.frags x) fun vs' l' d' hv=>IH x hmem v pq w7 o vs' l' d' gp (by omega) hps fun e he=>hall e (m_g he hmem);have hifc:∃ o9,v=ifcV o9:=by
   cases x;simp only [PSel] at hps;rcases hps with ⟨-, b,_,_,_,_,_,_,_,_,_,pos,rfl,-⟩|⟨-, b,_,_,_,pos,rfl,-⟩|⟨-, b,_,_,_,_,_,_,pos,rfl,-⟩
   ·exact ⟨some (_,_),rfl⟩
   ·exact ⟨some (_,_),rfl⟩
   ·exact ⟨some (_,_),rfl⟩
  obtain ⟨o9,rfl⟩:=hifc;refine ⟨p,hpp,⟨h0,hlt⟩,o9,hc,call.mono ?_⟩;rintro _ w11 ⟨rfl,h11⟩;refine ⟨rfl,trivial,?_⟩;rw [a_a h0 (by omega)];refine next h0 hlt ?_
  rw [n_q h0 hx];exact h11
 ·have hle:=odf hge;rw [tl_ (by omega)] at hr;exact ⟨rfl,hr⟩
def GFld (c:WCtx)(vm:Nat)(q:OA)(w:World):Prop:=q=none∨∃ (fb:Nat) (A:OA) (L C:Nat) (xs:List ArgDef) (qt:OA),q=some (adr fb)/\a_1 c.M c.w0 A L C xs/\(∀ y∈xs,a_s y)/\
 ∀ w',Stp c vm w w'->w'.cell? ⟨fb,2,none⟩=some (.slice A L C)/\w'.cell? ⟨fb,4,none⟩=some (.pointer qt)/\∃ s,CP 205 #[.pointer qt] w' fun e w''=>e=.returned (.string s)/\w''=w'
theorem GFld.nst {w':World}(h:GFld c vm q w)(n:Stp c vm w w'):GFld c vm q w':=by
 rcases h with h|⟨fb,A,L,C,xs,qt,h1,h2,h3,h4⟩
 ·exact .inl h
 ·exact .inr ⟨fb,A,L,C,xs,qt,h1,h2,h3,fun w'' n'=>h4 w'' (n.trans n')⟩
theorem GFld.real (hwk:Wk c c.w0 w){f:Fld}{fb:Nat}(hp:PFld c.M c.w0 f fb)(hok:okFld f):GFld c vm (some (adr fb)) w:=by
 obtain ⟨A1,L1,C1,qd,tb,A6,L6,C6,pos6,hMf,hBf,hargs,hdf,hty,hdirs⟩:=hp;refine .inr ⟨fb,A1,L1,C1,f.args,some (adr tb),rfl,hargs,hok.2.2.2,fun w' n=>?_⟩;have k:=hwk.trans n.wk;exact ⟨k.nd hMf hBf (j:=2) rfl rfl,k.nd hMf hBf (j:=4) rfl rfl,_,a_I f.t tb w' k hty hok.1⟩
theorem GFld.fresh (g:Good c){fb tb:Nat}{s:BA}{cs':List Value}(hs:s≠E0)(h1:Blk w fb 282 cs)(h2:Blk w tb 285 (.string s::cs'))(c2:cs[2]? =some (.slice none 0 0))(c4:cs[4]? =some (.pointer (some (adr tb))))(n1:¬ WX c vm fb)(n2:¬ WX c vm tb):GFld c vm (some (adr fb)) w:=by
 refine .inr ⟨fb,none,0,0,[],some (adr tb),rfl,⟨rfl,by omega,by omega,fun i x h=>by simp at h⟩,fun y hy=>by simp at hy,fun w' n=>?_⟩;have k1:=h1.ext n.ext n1;have k2:=h2.ext n.ext n2;refine ⟨(k1.at (j:=2) c2).cell,(k1.at (j:=4) c4).cell,s,?_⟩;have c0:=(k2.at (j:=0) rfl).cell;refine b_H (some (adr tb)) w' _ ⟨adr tb,rfl,s,c0,fun _=>⟨adr tb,rfl,s,c0,rfl,rfl⟩,fun h=>?_⟩;exact absurd (b_2 h) hs
theorem OptR.look {α:Type}{P:α->Nat->Prop}{d:Option α}{v:Option Value}(h:OptR P d v):∃ q,v.getD (.pointer none)=.pointer q/\OptQ P d q:=by
 cases d with
 | none=>
  cases v with
  | none=>exact ⟨none,rfl,rfl⟩
  | some v=>exact h.elim
 | some d=>
  cases v with
  | none=>exact h.elim
  | some v=>
   obtain ⟨b,rfl,hp⟩:=h;exact ⟨_,rfl,b,rfl,hp⟩
theorem OptQ.isSome {α:Type}{P:α->Nat->Prop}{d:Option α}(h:OptQ P d q):q.isSome=d.isSome:=by
 cases d with
 | none=>rw [show q=none from h];rfl
 | some d=>
  obtain ⟨b,rfl,-⟩:=h;rfl
theorem Wst.flook {co:OA}{evs:List Value}(h:Wst c co vm evs w)(u:BA):∃ q,(Instr.lookup 210 (.map (some c.fm)) (.string u) false).run Tryz.prog w=.ok (.pointer q) w/\OptQ (PFrag c.M c.w0) (a_h Frag.name c.frags u) q:=by
 obtain ⟨q,hq,ho⟩:=(h.frags.2 u).look;refine ⟨q,?_,ho⟩;have:=a_W (t:=210) (kt:=9) (e:=229) (u:=u) (i:=Tryz.t229) (by kernel_rfl) (by kernel_rfl) (by kernel_rfl) rfl h.frags.1 false;rw [this];show Result.ok ((mget c.fl u).getD (.pointer none)) w=_;rw [hq]
theorem b_3.spread {v:Value}(h:b_3 c b 231 3 v){n:BA}(hB:Blk c.w0 b 231 (.string n::cs)):∃ q,v=.pointer q/\OptQ (PFrag c.M c.w0) (a_h Frag.name c.frags n) q:=by
 obtain ⟨q,h1,h2⟩:=h.2.2.2.2.2.1 ⟨rfl,rfl⟩;exact ⟨q,h1,h2 n cs hB⟩
theorem o_n {n:BA}(hB:Blk c.w0 b 231 (.string n::cs))(h:OptQ (PFrag c.M c.w0) (a_h Frag.name c.frags n) q):b_3 c b 231 3 (.pointer q):=by
 refine ⟨rfl,fun h=>absurd h.1 (by decide),fun h=>absurd h.1 (by decide),fun h=>absurd h.1 (by decide),fun h=>absurd h.1 (by decide),fun _=>⟨q,rfl,fun n' cs' hB'=>?_⟩,fun h=>absurd h.1 (by decide)⟩;have e:n'=n:=by
  have h1:At c.w0 231 ⟨b,0,none⟩ (.string n):=hB.at (j:=0) rfl;have h2:At c.w0 231 ⟨b,0,none⟩ (.string n'):=hB'.at (j:=0) rfl;have:=h1.cell.symm.trans h2.cell;simpa using this.symm
 rw [e];exact h
theorem Wr.after {o:OC}{vs:List BA}{l:List Ev}{w' w'':World}{need:List Ev}(h:Wr c o vs l w' need w'')(n:Stp c o.vm w w'):Wr c o vs l w need w'':=by
 obtain ⟨h1,h2⟩:=h;exact ⟨n.trans h1,h2⟩
theorem k_a (g:Good c)(al n on:BA)(args:List Argm)(dirs:List Dir)(kids:List Sel)(IH:WSels c m kids):WSel c m (.mk 0 al n on args dirs kids):=by
 intro v pq w o vs l hw gp hm hp hall;have hsp:=hp;simp only [PSel] at hp;rcases hp with ⟨-, b,A1,L1,C1,A2,L2,C2,A3,L3,C3,pos,rfl,hM,hB,hargs,hdirs,hL3,hC3,hs3,hkids⟩|⟨h,-⟩|⟨h,-⟩
 rotate_left
 ·simp at h
 ·simp at h
 have hkids:=PSels'_iff.1 ⟨hL3,hC3,hs3,hkids⟩;have hL1:=hargs.2.2.1;have hL10:=hargs.1;refine a_K (some (adr c.wb)) pq (some (277,.pointer (some (adr b)))) w _ fun K4 hK4=>?_;refine ⟨fun u hu=>⟨some (adr b),by cases hu;rfl,hK4 true _ w ⟨fun _=>?_,nofun⟩⟩,fun hn=>absurd rfl (hn _)⟩;intro K8 hK8;have key8:∀ q w',Nst c w w'->GFld c o.vm q w'->K8 q w':=by
  intro q w' n' gq;have d':=hw.nst g n';have n12:=Nst.set (v:=.pointer q) d'.st.wk hM hB (b_Q (T:=280) (j:=7) rfl (by decide) (by decide) (by decide) (by decide));have d12:=d'.nst g n12;have n14:=Nst.set (v:=.pointer pq) d12.st.wk hM hB (b_Q (T:=280) (j:=8) rfl (by decide) (by decide) (by decide) (by decide));have d14:=d12.nst g n14;refine hK8 q w' ⟨adr b,rfl,d'.st.wk.off hM hB (j:=7) (n:=1) (by simp),trivial,adr b,rfl,d12.st.wk.off hM hB (j:=8) (n:=1) (by simp),trivial,fun K15 hK15=>?_⟩;have m14:Nst c w _:=n'.trans (n12.trans n14);have g14:=gq.nst (n12.trans n14).stp;generalize hw14:((w'.setCell ((adr b).add 7) (.pointer q)).setCell ((adr b).add 8) (.pointer pq))=w14;replace d14:Wd c o vs l w14:=by rw [<- hw14];exact d14
  replace m14:Nst c w w14:=by rw [<- hw14];exact m14
  replace g14:GFld c o.vm q w14:=by rw [<- hw14];exact g14
  clear hw14;have key15:∀ qn w17,Nst c w14 w17->GDef c qn->K15 qn w17:=by
   intro qn w17 n17 gqn;have d17:=d14.nst g n17;refine hK15 qn w17 ⟨adr b,rfl,A1,L1,C1,d17.st.wk.nd hM hB (j:=2) rfl rfl,?_⟩;refine ⟨fun i w1=>0<=i/\i<=L1/\Wr c o vs l w14 (b_B (args.take i.toNat)) w1,fun i _=>((L1:Int)-i).toNat,⟨by omega,by omega,by simpa [b_B] using (Wr.refl d14).nst g n17⟩,?_⟩;rintro i w23 ⟨h0,hi,n23⟩;have s23:=n23.st;refine ⟨fun hlt=>?_,fun hge=>?_⟩
   ·have hlt:=odt hlt;obtain ⟨p,x,v,hpp,hx,hc,ab,rfl,harg⟩:=hargs.wget s23.wk (fun _=>rfl) h0 hlt;refine ⟨p,hpp,⟨h0,hlt⟩,_,hc,fun K26 hK26=>?_⟩;have key26:∀ q w',Wr c o vs l w14 (b_B (args.take i.toNat)) w'->(q=none∨∃ db d,q=some (adr db)/\b_u c.M c.w0 d db/\a_s d)->K26 q w':=by
     intro q w' n' hq;refine hK26 q w' ((n'.then fun vs' l' d' _=>d_R g d' (fun e he=>hall e ?_) hq harg).mono ?_)
     ·simp only [evS,if_true];exact ma_.2 (.inl (mf_.2 ⟨x,mg_ hx,he⟩))
     rintro _ w2 ⟨rfl,n2⟩;refine ⟨rfl,trivial,?_⟩;rw [a_a h0 (by omega)];refine next h0 hlt ?_
     rw [b_B,c_t _ h0 hx];exact n2
    refine ⟨fun hs=>?_,fun _=>key26 none w23 n23 (.inl rfl)⟩;rcases g14 with rfl|⟨fb,A,L,C,xs,qt,rfl,hads,hokads,hcells⟩
    ·cases hs
    intro w31 e31;have n31:=n23.drew g e31;have s31:=n31.st;have harg':=harg;obtain ⟨vb2,pos2,hMa,hBa,-⟩:=harg';refine ⟨adr fb,rfl,A,L,C,(hcells w31 n31.1).1,adr ab,rfl,_,s31.wk.nd hMa hBa (j:=0) rfl rfl,?_⟩;refine (a_H s31.wk hads).mono ?_;rintro _ _ ⟨q45,rfl,rfl,hq45⟩;exact ⟨q45,rfl,trivial,trivial,trivial,key26 q45 _ n31 (i_2 hokads hq45)⟩
   ·have hle:=odf hge;rw [tl_ (by omega)] at n23;refine ⟨adr b,rfl,A2,L2,C2,s23.wk.nd hM hB (j:=3) rfl rfl,?_⟩;refine (n23.then fun vs' l' d' _=>a_D g d' hdirs fun e he=>hall e ?_).mono ?_
    ·simp only [evS,if_true];exact ma_.2 (.inr (ma_.2 (.inl he)))
    rintro _ w42 ⟨rfl,n42⟩;refine ⟨rfl,trivial,adr b,rfl,A3,L3,C3,n42.st.wk.nd hM hB (j:=4) rfl rfl,?_⟩;refine (n42.then fun vs' l' d' hv=>IH A3 L3 C3 qn w42 o vs' l' d' gqn (by omega) hkids fun e he=>hall e ?_).mono ?_
    ·simp only [evS,if_true];exact ma_.2 (.inr (ma_.2 (.inr (ma_.2 (.inl he)))))
    rintro _ w46 ⟨rfl,h46⟩;obtain ⟨y1,y2⟩:=h46.events 1 rfl;refine ⟨rfl,trivial,adr c.wb,rfl,_,y1,adr c.eb,rfl,_,_,_,y2,?_⟩;refine h46.visit g (ev:=.fld (.mk 0 al n on args dirs kids)) rfl ⟨b,rfl,hsp⟩ (hall _ (by simp [evS])) fun w2 h2=>⟨rfl,?_⟩;simp only [evS,if_true];have:=h2.after m14.stp;simpa only [List.append_assoc] using this
  refine ⟨fun hs=>?_,fun _=>key15 none w14 (Nst.refl c w14) (.inl rfl)⟩;have g14':=g14;rcases g14' with rfl|⟨fb,A,L,C,xs,qt,rfl,hads,hokads,hcells⟩
  ·cases hs
  intro w62 e62;have n62:=(Nst.refl c w14).drew e62;have d62:=d14.nst g n62;obtain ⟨z1,z2,z3,z4⟩:=d62.st.sch g;obtain ⟨-, k4,s,kcall⟩:=hcells w62 n62.stp;refine ⟨adr c.wb,rfl,_,z1,adr c.sb,rfl,_,z2,adr fb,rfl,_,k4,?_⟩;refine kcall.mono ?_;rintro _ _ ⟨rfl,rfl⟩;obtain ⟨q72,r72,o72⟩:=z4 s;have g72:=GDef.of g o72;exact ⟨s,rfl,trivial,by simp,q72,r72,trivial,key15 q72 _ n62 g72⟩
 refine ⟨adr b,rfl,n,hw.st.wk.nd hM hB (j:=1) rfl rfl,fun _=>?_,fun _=>⟨fun hs=>?_,fun _=>key8 none w (Nst.refl c w) (.inl rfl)⟩⟩
 ·refine g_z _ none w _ ⟨trivial,trivial,_,rfl,trivial,trivial,trivial,?_⟩;have x1:EF w _:=(Ext.refl w).alloc (.cells #[.string ⟨#[83,116,114,105,110,103]⟩,.pointer none,.bool false,.pointer none] 285);have x2:=x1.alloc (.cells #[.string ⟨#[]⟩,.string ⟨#[95,95,116,121,112,101,110,97,109,101]⟩,.slice none 0 0,.pointer none,.pointer (some (adr w.heap.size)),.slice none 0 0,.pointer none,.pointer none,.pointer none] 282);have hsz:∀ b,w.heap.size<=b->¬ WX c o.vm b:=fun b hb hMb=>by
   have:=hw.st.sz;rcases hMb with hMb|hMb|hMb
   ·have:=g.lt b hMb;omega
   ·have:=g.vlt b hMb;omega
   ·obtain ⟨m,hm,-⟩:=hw.vm;have:=hm.lt;omega
  refine key8 _ _ (Nst.of0 x2) (GFld.fresh g (s:=⟨#[83,116,114,105,110,103]⟩) (by decide) (Blk.made _ _ _) ((Blk.made w _ _).ext (X:=fun _=>False) ((Ext.refl _).alloc _) id) rfl rfl (hsz _ x1.size) (hsz _ (Nat.le_refl _)))
 ·rcases gp with rfl|⟨db,d,rfl,hpd,hokd⟩
  ·cases hs
  intro w79 e79;have n79:=(Nst.refl c w).drew e79;have d79:=hw.nst g n79;have hpd':=hpd;obtain ⟨_,_,_,_,_,_,Af,Lf,Cf,_,_,_,_,_,_,posd,hMd,hBd,-, -, hflds,-⟩:=hpd';refine ⟨adr db,rfl,Af,Lf,Cf,d79.st.wk.nd hMd hBd (j:=5) rfl rfl,adr b,rfl,n,d79.st.wk.nd hM hB (j:=1) rfl rfl,?_⟩;refine (b_y d79.st.wk hflds).mono ?_;rintro _ _ ⟨q86,rfl,rfl,hq86⟩;refine ⟨q86,rfl,trivial,trivial,trivial,key8 q86 _ n79 ?_⟩;cases hf:a_h Fld.name d.fields n with
  | none=>rw [hf] at hq86;exact .inl hq86
  | some f=>
   rw [hf] at hq86;obtain ⟨fb,rfl,hpf⟩:=hq86;exact GFld.real d79.st.wk hpf (hokd.2.2.1 f (a_U hf).1)
theorem j_h (g:Good c)(al n on:BA)(args:List Argm)(dirs:List Dir)(kids:List Sel)(IH:WSels c m kids):WSel c m (.mk 2 al n on args dirs kids):=by
 intro v pq w o vs l hw gp hm hp hall;have hsp:=hp;simp only [PSel] at hp;rcases hp with ⟨h,-⟩|⟨h,-⟩|⟨-, b,A2,L2,C2,A3,L3,C3,pos,rfl,hM,hB,hdirs,hL3,hC3,hs3,hkids⟩
 ·simp at h
 ·simp at h
 have hkids:=PSels'_iff.1 ⟨hL3,hC3,hs3,hkids⟩;have hev:evS c.frags (.mk 2 al n on args dirs kids)=evDs j_0 dirs++(evL c.frags kids++[.inl (.mk 2 al n on args dirs kids)]):=by simp [evS]
 refine a_K (some (adr c.wb)) pq (some (221,.pointer (some (adr b)))) w _ fun K4 hK4=>?_;refine ⟨fun u hu=>absurd hu (by simp),fun _=>hK4 false none w ⟨nofun,fun _=>?_⟩⟩;intro K87 hK87;refine ⟨fun u hu=>⟨some (adr b),by cases hu;rfl,hK87 true _ w ⟨fun _=>?_,nofun⟩⟩,fun hn=>absurd rfl (hn _)⟩;have n92:=Nst.set (v:=.pointer pq) hw.st.wk hM hB (b_Q (T:=225) (j:=3) rfl (by decide) (by decide) (by decide) (by decide));have d92:=hw.nst g n92;refine ⟨adr b,rfl,hw.st.wk.off hM hB (j:=3) (n:=1) (by simp),trivial,fun K93 hK93=>?_⟩;have key93:∀ qn w95,Nst c w w95->GDef c qn->K93 qn w95:=by
  intro qn w95 n95 gqn;have r95:Wr c o vs l w [] w95:=(Wr.refl hw).nst g n95;refine hK93 qn w95 ⟨adr b,rfl,A2,L2,C2,r95.st.wk.nd hM hB (j:=1) rfl rfl,?_⟩;refine (r95.then fun vs' l' d' _=>a_D g d' hdirs fun e he=>hall e ?_).mono ?_
  ·rw [hev];exact ma_.2 (.inl he)
  rintro _ w99 ⟨rfl,n99⟩;refine ⟨rfl,trivial,adr b,rfl,A3,L3,C3,n99.st.wk.nd hM hB (j:=2) rfl rfl,?_⟩;refine (n99.then fun vs' l' d' hv=>IH A3 L3 C3 qn w99 o vs' l' d' gqn (by omega) hkids fun e he=>hall e ?_).mono ?_
  ·rw [hev];exact ma_.2 (.inr (ma_.2 (.inl he)))
  rintro _ w103 ⟨rfl,h103⟩;obtain ⟨y1,y2⟩:=h103.events 3 rfl;refine ⟨rfl,trivial,adr c.wb,rfl,_,y1,adr c.eb,rfl,_,_,_,y2,?_⟩;refine h103.visit g (ev:=.inl (.mk 2 al n on args dirs kids)) rfl ⟨b,rfl,hsp⟩ (hall _ (by rw [hev];simp)) fun w2 h2=>⟨rfl,?_⟩;rw [hev];simpa only [List.append_assoc,List.nil_append] using h2
 refine ⟨adr b,rfl,on,d92.st.wk.nd hM hB (j:=0) rfl rfl,fun _=>?_,fun _=>key93 pq _ n92 gp⟩;intro w121 e121;have n121:=n92.drew e121;have d121:=hw.nst g n121;obtain ⟨z1,z2,z3,z4⟩:=d121.st.sch g;obtain ⟨q128,r128,o128⟩:=z4 on;have g128:=GDef.of g o128;exact ⟨adr c.wb,rfl,_,z1,adr c.sb,rfl,_,z2,adr b,rfl,_,d121.st.wk.nd hM hB (j:=0) rfl rfl,q128,r128,trivial,key93 q128 _ n121 g128⟩
theorem j_i (g:Good c)(al n on:BA)(args:List Argm)(dirs:List Dir)(kids:List Sel)(IHm:∀ m',m=m'+1->∀ f∈c.frags,WSels c m' f.kids):WSel c m (.mk 1 al n on args dirs kids):=by
 intro v pq w o vs l hw gp hm hp hall;simp only [PSel] at hp;rcases hp with ⟨h,-⟩|⟨-, b,A2,L2,C2,pos,rfl,hM,hB,hdirs⟩|⟨h,-⟩
 ·simp at h
 rotate_left
 ·simp at h
 have hev:evS c.frags (.mk 1 al n on args dirs kids)=evDs h_9 dirs++[spEv c.frags n]:=by simp [evS]
 rw [hev] at hall ⊢;refine a_K (some (adr c.wb)) pq (some (228,.pointer (some (adr b)))) w _ fun K4 hK4=>?_;refine ⟨fun u hu=>absurd hu (by simp),fun _=>hK4 false none w ⟨nofun,fun _=>?_⟩⟩;intro K87 hK87;refine ⟨fun u hu=>absurd hu (by simp),fun _=>hK87 false none w ⟨nofun,fun _=>?_⟩⟩;intro K129 hK129;refine ⟨fun u hu=>⟨some (adr b),by cases hu;rfl,hK129 true _ w ⟨fun _=>?_,nofun⟩⟩,fun hn=>absurd rfl (hn _)⟩;intro w133 e133;have n133:=(Nst.refl c w).drew e133;have d133:=hw.nst g n133;obtain ⟨q138,r138,o138⟩:=d133.st.flook n;have n140:=Nst.set (v:=.pointer q138) d133.st.wk hM hB (o_n hB o138);have a140:=d133.st.wk.setat hM hB (j:=3) (v:=.pointer q138) (by simp);have d140:=d133.nst g n140;have n142:=Nst.set (v:=.pointer pq) d140.st.wk hM hB (b_Q (T:=231) (j:=2) rfl (by decide) (by decide) (by decide) (by decide));refine ⟨adr c.wb,rfl,_,(d133.st.walker.at (j:=5) rfl).cell,adr b,rfl,n,d133.st.wk.nd hM hB (j:=0) rfl rfl,q138,r138,trivial,adr b,rfl,d133.st.wk.off hM hB (j:=3) (n:=1) (by simp),trivial,adr b,rfl,d140.st.wk.off hM hB (j:=2) (n:=1) (by simp),trivial,fun K143 hK143=>?_⟩;have key143:∀ qn w145,Nst c (w133.setCell ⟨b,3,none⟩ (.pointer q138)) w145->GDef c qn->K143 qn w145:=by
  intro qn w145 n145 gqn;have r145:Wr c o vs l (w133.setCell ⟨b,3,none⟩ (.pointer q138)) [] w145:=(Wr.refl d140).nst g n145;refine hK143 qn w145 ⟨adr b,rfl,A2,L2,C2,r145.st.wk.nd hM hB (j:=1) rfl rfl,?_⟩;refine (r145.then fun vs' l' d' _=>a_D g d' hdirs fun e he=>hall e (ma_.2 (.inl he))).mono ?_;rintro _ w149 ⟨rfl,n149⟩;refine ⟨rfl,trivial,fun K150 hK150 K167 hK167=>?_⟩;have key150:∀ w151,Wr c o vs l (w133.setCell ⟨b,3,none⟩ (.pointer q138)) (evDs h_9 dirs) w151->K150 w151:=by
   intro w151 h151;obtain ⟨y1,y2⟩:=h151.events 4 rfl;refine hK150 w151 ⟨adr c.wb,rfl,_,y1,adr c.eb,rfl,_,_,_,y2,?_⟩;have hnode:f_i c w151 (.pointer (some (adr b))) (spEv c.frags n):=by
    obtain ⟨v',hv',hcase⟩:=h151.1.wk.note (a:=⟨b,3,none⟩) hM a140;have hq:∃ q,v'=.pointer q/\OptQ (PFrag c.M c.w0) (a_h Frag.name c.frags n) q:=by
     rcases hcase with rfl|hok
     ·exact ⟨q138,rfl,o138⟩
     ·exact hok.spread hB
    obtain ⟨q,rfl,hq⟩:=hq;exact ⟨b,q,_,_,_,_,rfl,hM,hB,hv'.cell,hq.isSome,rfl⟩
   exact h151.visit g (ev:=spEv c.frags n) rfl hnode (hall _ (by simp)) fun w2 h2=>⟨rfl,h2.after (n133.trans n140).stp⟩
  intro w184 e184;have n184:=n149.drew g e184;cases hfn:a_h Frag.name c.frags n with
  | none=>
   rw [hfn] at o138;obtain rfl:q138=none:=o138;exact ⟨nofun,fun _=>hK167 false w184 ⟨nofun,fun _=>key150 w184 n184⟩⟩
  | some f=>
   have o138':=o138;rw [hfn] at o138';obtain ⟨fb,hqf,Af2,Lf2,Cf2,Af3,Lf3,Cf3,posf,hMf,hBf,hfd,hfk⟩:=o138';obtain ⟨hfm,hfname⟩:=a_U hfn;have n184':=n184;obtain ⟨st1,vs1,es1,d184,hlen1,hdoc1,hneed1,hcap1⟩:=n184';obtain ⟨z,r189,hz⟩:=d184.vm.look f.name;refine ⟨fun _=>⟨adr c.wb,rfl,_,(d184.st.walker.at (j:=3) rfl).cell,adr fb,hqf,f.name,d184.st.wk.nd hMf hBf (j:=1) rfl rfl,z,r189,?_⟩,fun h=>by rw [hqf] at h;cases h⟩;refine hK167 (!z) w184 ⟨fun hb=>?_,fun _=>key150 w184 n184⟩;have hnew:f.name∉vs1:=fun hm=>by
    rw [hz.2 hm] at hb;cases hb
   intro w170 e170;have n170:=(Nst.refl c w184).drew e170;have d170:=d184.nst g n170;have hfmem:f.name∈c.frags.map Frag.name:=mm_.2 ⟨f,hfm,rfl⟩;obtain ⟨w175,r175,d175,s175⟩:=d170.put g hnew hfmem;have hdocf:∀ e∈evFr c.frags f,DocEv c e:=fun e he=>.inr ⟨f,hfm,he⟩;refine ⟨adr c.wb,rfl,_,(d170.st.walker.at (j:=3) rfl).cell,adr fb,hqf,f.name,d170.st.wk.nd hMf hBf (j:=1) rfl rfl,w175,r175,trivial,trivial,adr fb,hqf,Af2,Lf2,Cf2,d175.st.wk.nd hMf hBf (j:=4) rfl rfl,?_⟩;refine (a_D g d175 hfd fun e he=>hdocf e (ma_.2 (.inl he))).mono ?_;rintro _ w179 ⟨rfl,n179⟩;refine ⟨rfl,trivial,adr fb,hqf,Af3,Lf3,Cf3,n179.st.wk.nd hMf hBf (j:=5) rfl rfl,?_⟩;have hlen:(f.name::vs1).length<=c.frags.length:=by
    have:=c_K d175.nd d175.sub;simpa using this
   cases m with
   | zero=>
    simp only [List.length_cons] at hlen;omega
   | succ m'=>
    refine (n179.then fun vs' l' d' hv=>IHm m' rfl f hfm Af3 Lf3 Cf3 qn w179 o vs' l' d' gqn (by simp only [List.length_cons] at hv;omega) hfk fun e he=>hdocf e (ma_.2 (.inr (ma_.2 (.inl he))))).mono ?_;rintro _ w183 ⟨rfl,s183,vs',es',d183,hlen',hdoc',-, hcap'⟩;have hpot:=o_r (c:=c) (ob:=o.ob) hfm hnew;have hfl:cntE o.ob (evDs d_z f.dirs++evL c.frags f.kids)<=cntE o.ob (evFr c.frags f):=by simp only [evFr,k_c];omega
    refine ⟨rfl,trivial,key150 w183 ⟨st1.trans (n170.stp.trans (s175.trans s183)),vs',es1++es',by rwa [<- List.append_assoc],by simp only [List.length_cons] at hlen';omega,fun e he=>?_,fun e he ho=>ma_.2 (.inl (hneed1 e he ho)),by simp only [List.nil_append] at hcap1;rw [la_];omega⟩⟩;exact (ma_.1 he).elim (hdoc1 e) (hdoc' e)
 refine ⟨fun hs=>?_,fun _=>key143 none _ n142 (.inl rfl)⟩;cases hfn:a_h Frag.name c.frags n with
 | none=>
  rw [hfn] at o138;rw [show q138=none from o138] at hs;cases hs
 | some f=>
  have o138':=o138;rw [hfn] at o138';obtain ⟨fb,hqf,Af2,Lf2,Cf2,Af3,Lf3,Cf3,posf,hMf,hBf,hfd,hfk⟩:=o138';intro w190 e190;have n190:=n142.drew e190;have d190:=d140.nst g n190;obtain ⟨z1,z2,z3,z4⟩:=d190.st.sch g;obtain ⟨q197,r197,o197⟩:=z4 f.on;exact ⟨adr c.wb,rfl,_,z1,adr c.sb,rfl,_,z2,adr fb,hqf,f.on,d190.st.wk.nd hMf hBf (j:=3) rfl rfl,q197,r197,trivial,key143 q197 _ n190 (GDef.of g o197)⟩
theorem d_4 (g:Good c)(IHm:∀ m',m=m'+1->∀ f∈c.frags,WSels c m' f.kids):∀ s,WSel c m s
 | .mk k al n on args dirs kids=>by
  have IH:WSels c m kids:=b_A g fun s hs=>d_4 g IHm s;intro v pq w o vs l hw gp hm hp hall;have hk:k=0∨k=1∨k=2:=by
   have hp':=hp;simp only [PSel] at hp';rcases hp' with ⟨h,-⟩|⟨h,-⟩|⟨h,-⟩<;>simp [h]
  rcases hk with rfl|rfl|rfl
  ·exact k_a g al n on args dirs kids IH v pq w o vs l hw gp hm hp hall
  ·exact j_i g al n on args dirs kids IHm v pq w o vs l hw gp hm hp hall
  ·exact j_h g al n on args dirs kids IH v pq w o vs l hw gp hm hp hall
 termination_by s=>SizeOf.sizeOf s
 decreasing_by
 have:=List.sizeOf_lt_of_mem hs;simp;omega
theorem e_X (g:Good c):∀ (m:Nat) (ks:List Sel),WSels c m ks
 | 0,ks=>b_A g fun s _=>d_4 g (fun m' h=>by omega) s
 | m+1,ks=>b_A g fun s _=>d_4 g (fun m' h f hf=>by
   obtain rfl:m=m':=by omega
   exact e_X g m f.kids) s
end Go.VC
