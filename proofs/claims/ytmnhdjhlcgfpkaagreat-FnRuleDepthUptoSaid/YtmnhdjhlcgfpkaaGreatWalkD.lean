/- Part of the proof of a law of a rule over documents (WalkD), where what the arguments hold is of bulk at most 1048576. -/
import Derived.Test.YtmnhdjhlcgfpkaaGreatWalkC
import Derived.Test.YtmnhdjhlcgfpkaaGreatWalkA
set_option linter.unusedVariables false
set_option linter.unusedSectionVars false
namespace Go.VC
open Go Go.Proofs
variable [DB]
variable {α:Type}{cs:List Value}{C ae m:Nat}{S S':Nat->Prop}{A q:OA}{ob:Obs}{b:Prop}{T:TypeId}{c:WCtx}{w w':World}
theorem NMap.mono {nm:α->BA}{P P':α->Nat->Prop}{l:List α}{m:List (BA × Value)}(h:NMap nm P l m)(hP:∀ x b,P x b->P' x b):NMap nm P' l m:=fun k=>(h k).mono hP
structure Base (c:WCtx):Prop where
 m:∀ b,c.M b->b<c.w0.heap.size
 sb:c.M c.sb
 qb:c.M c.qb
 m1:c.M c.m1/\SMap c.w0 c.m1 c.tm/\NMap Def.name (PDef c.M c.w0) c.types c.tm
 m2:c.M c.m2/\SMap c.w0 c.m2 c.dm/\NMap DirDef.name (a_Q c.M c.w0) c.dirs c.dm
 okt:∀ d∈c.types,okDef d
 okd:∀ d∈c.dirs,∀ y∈d.args,a_s y
 sch:∃ (q1 q2 q3:OA) (s:List Value),Blk c.w0 c.sb 230 (.pointer q1::.pointer q2::.pointer q3::.slice none 0 0::.map (some c.m1)::.map (some c.m2)::s)/\
  OptQ (PDef c.M c.w0) (lastN Def.name c.types c.rq) q1/\OptQ (PDef c.M c.w0) (lastN Def.name c.types c.rm) q2/\OptQ (PDef c.M c.w0) (lastN Def.name c.types c.rs) q3
 query:d_O c.M c.w0 c.ops c.frags c.qb
 vars:∀ x∈c.ops,∀ v∈x.vars,okTyp v.t
 oko:∀ x∈c.ops,a_z x.kids
 okf:∀ f∈c.frags,a_z f.kids
theorem Keeps.smap (h:Keeps S S' w w'){b:Nat}{m:List (BA × Value)}(hb:S b)(k:SMap w b m):SMap w' b m:=by
 obtain ⟨ents,cl,h1,h2⟩:=k;exact ⟨ents,cl,h.obj b _ hb h1,h2⟩
theorem d_O.keep (h:Keeps S S' w w'){ops:List OpD}{frags:List Frag}{b:Nat}:d_O S w ops frags b->d_O S' w' ops frags b
 | ⟨A1,L1,C1,A2,L2,C2,pos,hM,hB,h1,h2⟩=>⟨A1,L1,C1,A2,L2,C2,pos,h.sub _ hM hB.lt,h.blk hM hB,POps.keep h h1,h_r.keep h h2⟩
abbrev later (c:WCtx)(M:Nat->Prop)(w:World):WCtx:={ c with M:=M,w0:=w}
theorem Base.keep {M:Nat->Prop}(h:Base c)(k:Keeps c.M M c.w0 w)(hM:∀ b,M b->b<w.heap.size):Base (later c M w):=by
 obtain ⟨q1,q2,q3,s,hB,o1,o2,o3⟩:=h.sch;have hd:∀ x b,PDef c.M c.w0 x b->PDef M w x b:=fun x b=>PDef.keep k;exact ⟨hM,k.sub _ h.sb (h.m _ h.sb),k.sub _ h.qb (h.m _ h.qb),⟨k.sub _ h.m1.1 (h.m _ h.m1.1),k.smap h.m1.1 h.m1.2.1,h.m1.2.2.mono hd⟩,⟨k.sub _ h.m2.1 (h.m _ h.m2.1),k.smap h.m2.1 h.m2.2.1,h.m2.2.2.mono fun x b=>a_Q.keep k⟩,h.okt,h.okd,
  ⟨q1,q2,q3,s,k.blk h.sb hB,o1.mono hd,o2.mono hd,o3.mono hd⟩,d_O.keep k h.query,h.vars,h.oko,h.okf⟩
theorem Base.ready (h:Base c)(hrf:∀ n f,a_h Frag.name c.frags n=some f->rkF c.rf f<=c.rf n)(hV:∀ b,c.V b->b<c.w0.heap.size/\¬ c.M b/\b≠c.eb)(hst:∀ l w w',c.St l w->Ext (fun b=>¬ c.V b) w w'->Wk c w w'->c.St l w')(heb:¬ c.M c.eb)(events:Blk c.w0 c.eb 152 (evsOf ob))(h0:c.St [] c.w0)
  (vis:(∀ wb fm fl,c.w0.heap.size<=wb->c.w0.heap.size<=fm->fm≠wb->Good (at3 c wb fm fl))->∀ wb fm fl,c.w0.heap.size<=wb->c.w0.heap.size<=fm->fm≠wb->∀ j,Vis (at3 c wb fm fl) ob c.w0 j):Ready c ob c.w0:=by
 have good:∀ wb fm fl,c.w0.heap.size<=wb->c.w0.heap.size<=fm->fm≠wb->Good (at3 c wb fm fl):=by
  intro wb fm fl h1 h2 h3;have hm:∀ b,c.w0.heap.size<=b->¬ c.M b:=fun b hb hM=>by
   have:=h.m b hM;omega
  have hv:∀ b,c.w0.heap.size<=b->¬ c.V b:=fun b hb hM=>by
   have:=(hV b hM).1;omega
  have he:=events.lt;exact ⟨fun b hM hV'=>(hV b hV').2.1 hM,h.m,fun b hb=>(hV b hb).1,⟨hm wb h1,hv wb h1⟩,⟨heb,fun e=>(hV _ e).2.2 rfl,by show c.eb≠wb;omega⟩,⟨hm fm h2,hv fm h2,h3⟩,h.sb,h.qb,h.m1,h.m2,h.okt,h.okd,h.sch,fun l w w' h x k=>hst l w w' h x ⟨k.cells,k.maps⟩,p_p hrf⟩
 exact ⟨rfl,good,vis good,events,h.query,h.vars,h.oko,h.okf,h0,h.m,fun b hb=>(hV b hb).1⟩
theorem F2.get {β:Type}{R:α->β->Prop}{xs:List α}{ys:List β}(h:F2 R xs ys):∀ {i:Nat} {x:α},xs[i]? =some x->∃ y,ys[i]? =some y/\R x y:=by
 induction h with
 | nil=>intro i x hx;simp at hx
 | cons h1 _ ih=>
  intro i x hx;cases i with
  | zero=>
   obtain rfl:_=x:=by simpa using hx
   exact ⟨_,rfl,h1⟩
  | succ i=>exact ih (i:=i) (by simpa using hx)
theorem F2.pick {P:Def->Nat->Prop}{xs:List (BA × Def)}{ys:List (BA × Nat)}(h:F2 (RPush P) xs ys)(n:BA):F2 P ((xs.filter fun x=>decide (x.1=n)).map (·.2)) ((ys.filter fun x=>decide (x.1=n)).map (·.2)):=by
 induction h with
 | nil=>exact .nil
 | @cons x y xs ys h1 _ ih=>
  by_cases hx:x.1=n
  ·rw [List.filter_cons_of_pos (by simpa using hx),List.filter_cons_of_pos (by simpa using h1.1.symm.trans hx)];exact .cons h1.2 ih
  ·rw [List.filter_cons_of_neg (by simpa using hx),List.filter_cons_of_neg (by simpa using fun e=>hx (h1.1.trans e))];exact ih
def possF (types:List Def)(l:List Named)(n:BA):List Def:=((pushD types l).filter fun x=>decide (x.1=n)).map (·.2)
def PossS (S:Nat->Prop)(w:World)(sb:Nat)(types:List Def)(l:List Named):Prop:=∃ (cs:List Value) (m3:Nat) (pm:List (BA × Value)),Blk w sb 230 cs/\cs[6]? =some (.map (some m3))/\S m3/\SMap w m3 pm/\∀ n,∃ A L C,(mget pm n).getD (.slice none 0 0)=.slice A L C/\PDefs S w A L C (possF types l n)
theorem PossS.keep {sb:Nat}{types:List Def}{l:List Named}(h:PossS S w sb types l)(k:Keeps S S' w w')(hS:S sb):PossS S' w' sb types l:=by
 obtain ⟨cs,m3,pm,h1,h2,h3,h4,h5⟩:=h;exact ⟨cs,m3,pm,k.blk hS h1,h2,k.sub _ h3 h4.lt,k.smap h3 h4,fun n=>by
  obtain ⟨A,L,C,e,hd⟩:=h5 n;exact ⟨A,L,C,e,PDefs.keep k hd⟩⟩
theorem PossS.of {sb m3 base:Nat}{types:List Def}{l:List Named}{p3:List (BA × Nat)}(hB:Blk w sb 230 cs)(h6:cs[6]? =some (.map (some m3)))(hS3:S m3)(hb:∀ b,base<=b->S b)(hm:PM base w m3 p3)(hf:F2 (RPush (PDef S w)) (pushD types l) p3)(few:(pushD types l).length<=4194304):PossS S w sb types l:=by
 obtain ⟨pm,h1,h2,h3,-⟩:=hm;refine ⟨cs,m3,pm,hB,h6,hS3,h1,fun n=>?_⟩;have hg:F2 (PDef S w) (possF types l n) _:=hf.pick n;cases hn:mget pm n with
 | none=>
  rw [h3 n hn] at hg;have hz:possF types l n=[]:=List.eq_nil_of_length_eq_zero hg.len;rw [hz];exact ⟨none,0,0,rfl,PSl.nil⟩
 | some v=>
  obtain ⟨A,L,C,rfl,o⟩:=h2 n v hn;have hlen:L=(possF types l n).length:=(o.len (by omega)).trans hg.len.symm;have hfew:(possF types l n).length<=4194304:=by
   rw [possF,List.length_map];exact lt_ (List.length_filter_le _ _) few
  obtain ⟨g1,g2,g3,-⟩:=o.sl (by omega) (by omega);refine ⟨A,L,C,rfl,hlen,g2,g3,fun i x hi=>?_⟩;obtain ⟨b,hbi,hp⟩:=hg.get hi;have hge:=o.ge;obtain ⟨cells,o',f⟩:=o;obtain ⟨p,hp',cs',rfl,hat⟩:=o'.elem f (by omega) hbi;refine ⟨p,_,hp',hb _ (hge p.block ⟨p,hp',rfl⟩).1,?_,b,rfl,hp⟩;have:=hat 0 _ rfl
  rwa [Nat.mul_one,Nat.add_zero] at this
structure RuleOK (g28:FuncId) (wd:WorldD) (ops:List OpD) (frags:List Frag) (P:Int->Prop):Prop where
 fn:∃ fn30,Tryz.prog.funcs[g28]? =some fn30/\(fn30.name== "runtime.NumGoroutine" ||fn30.body.isNone)=false
 run:∀ (c:WCtx) (cnt:Nat),c.ops=ops->c.frags=frags->c.types=wd.types/\c.dirs=wd.dirs/\c.rq=wd.query/\c.rm=wd.mutation/\c.rs=wd.subscription/\PossS c.M c.w0 c.sb c.types wd.possible/\SepP c.M c.w0 c.qb c.ops->Base c->Blk c.w0 c.eb 152 [.slice none 0 0,.slice none 0 0,.slice none 0 0,.slice none 0 0,.slice none 0 0,.slice none 0 0,.slice none 0 0,.slice none 0 0,.slice none 0 0]->Blk c.w0 cnt 3 [.int .i64 0]->cnt≠c.eb->¬ c.M cnt->¬ c.M c.eb->
  CP g28 #[.pointer (some (adr c.eb)),.func (.func 119) #[] #[.pointer (some (adr cnt))]] c.w0 fun e w'=>e=.returned (.tuple #[])/\Ext (fun b=>b=c.eb) c.w0 w'/\
   ∃ (V:Nat->Prop) (St:List Ev->World->Prop) (ob:Obs) (rf:BA->Nat),Ready { c with V:=V,St:=St,w0:=w',rf:=rf} ob w'/\(∀ b,V b->c.M b∨cnt<=b)/\(∀ b,V b->∀ T cs fr,objAt w' b=some (.cells cs T fr)->T≠40/\T≠30)/\
   ∀ l w'',St l w''->Told { c with V:=V,St:=St,w0:=w',rf:=rf} ob ops frags l->∃ n,Blk w'' cnt 3 [.int .i64 n]/\P n
theorem c_6.keep (h:Keep w w'){x:WorldD}:c_6 w x cs->c_6 w' x cs
 | ⟨a1,l1,c1,a2,l2,c2,a6,l6,c6,a7,l7,c7,e,h1,h2,h3,h4⟩=>⟨a1,l1,c1,a2,l2,c2,a6,l6,c6,a7,l7,c7,e,RDefs.keep h h1,a_Y.keep h h2,d_X.keep h h3,d_X.keep h h4⟩
theorem k_4 (hx:Ext (fun b=>c.M b∨c.V b) w w')(hk:Wk c w w')(hT:∀ j,e_0 T j=false)(hV:∀ b,c.V b->∀ T' cs fr,objAt w b=some (.cells cs T' fr)->T'≠T):KeepT T w w':=by
 intro b cs fr ho;by_cases hM:c.M b
 ·obtain ⟨cs',h1,h2,h3⟩:=hk.cells b cs T fr hM ho;have e:cs'=cs:=by
   apply Array.ext h2;intro i hi hi';rcases h3 i cs'[i] (Array.getElem?_eq_getElem hi) with h|h
   ·rw [Array.getElem?_eq_getElem hi'] at h;exact (Option.some.inj h).symm
   ·have:=h.1;rw [hT i] at this;cases this
  rw [<- e];exact h1
 ·by_cases hVb:c.V b
  ·exact absurd rfl (hV b hVb _ _ _ ho)
  ·exact hx.old b _ (fun e=>e.elim hM hVb) ho
theorem f_3 (hB0:DB.B<=w.heap.size):CP 78 #[] w fun e w'=>∃ mb,e=.returned (.pointer (some (adr mb)))/\EF w w'/\Mk w' mb/\w.heap.size<=mb:=by
 have x1:EF w _:=(Ext.refl w).alloc (.cells #[.string ⟨#[]⟩,.string ⟨#[]⟩,.bool false] 281);have x2:=x1.alloc (.cells #[.pointer (some (adr w.heap.size)),.int .i64 0,.bool false] 140);exact g_E w _ ⟨trivial,trivial,trivial,trivial,_,rfl,x2,⟨lt_ hB0 x1.size,_,_,Blk.made _ _ [.pointer (some (adr w.heap.size)),.int .i64 0,.bool false]⟩,x1.size⟩
theorem j_d {g28:FuncId}{P:Int->Prop}{wd:WorldD}{a1:OA}{l1 c1:Nat}{a2:OA}{l2 c2:Nat}{a6:OA}{l6 c6:Nat}{a7:OA}{l7 c7:Nat}{q8:OA}{q8l q8c:Nat}{q9:OA}{q9l q9c:Nat}{ops:List OpD}{frags:List Frag}
  (hw:c_6 w wd [.slice a1 l1 c1,.slice a2 l2 c2,.string wd.query,.string wd.mutation,.string wd.subscription,.slice a6 l6 c6,.slice a7 l7 c7]) (ok3:∀ x∈wd.dirs,∀ y∈x.args,a_s y) (ok4:∀ x∈wd.types,okDef x)
  (few6:(pushD wd.types wd.possible).length<=4194304) (few7:(pushD wd.types wd.implements).length<=4194304) (hl1:ROps w q8 q8l q8c ops) (hl2:a_X w q9 q9l q9c frags) (ok1:∀ x∈ops,okOp x) (ok2:∀ x∈frags,b_j x) (hr:RuleOK g28 wd ops frags P) (hB0:DB.B<=w.heap.size):
  CP 54 #[.agg #[.slice a1 l1 c1,.slice a2 l2 c2,.string wd.query,.string wd.mutation,.string wd.subscription,.slice a6 l6 c6,.slice a7 l7 c7],.agg #[.slice q8 q8l q8c,.slice q9 q9l q9c],.func (.func g28) #[] #[]] w fun e w'=>
   ∃ n,e=.returned (.tuple #[.int .i64 n,.bool true])/\P n/\EF w w':=by
 refine j_L a1 l1 c1 a2 l2 c2 wd.query wd.mutation wd.subscription a6 l6 c6 a7 l7 c7 q8 q8l q8c q9 q9l q9c _ w _ ⟨trivial,trivial,?_⟩;have x11:EF w (w.alloc (.cells #[.slice a1 l1 c1,.slice a2 l2 c2,.string wd.query,.string wd.mutation,.string wd.subscription,.slice a6 l6 c6,.slice a7 l7 c7] 40)):=(Ext.refl w).alloc _;have x12:=x11.alloc (.cells #[.slice q8 q8l q8c,.slice q9 q9l q9c] 30);generalize (w.alloc (.cells #[.slice a1 l1 c1,.slice a2 l2 c2,.string wd.query,.string wd.mutation,.string wd.subscription,.slice a6 l6 c6,.slice a7 l7 c7] 40)).alloc (.cells #[.slice q8 q8l q8c,.slice q9 q9l q9c] 30)=w12 at x12 ⊢;refine (f_3 (lt_ hB0 x12.size)).mono ?_;rintro _ w14 ⟨mb,rfl,x14,m14,hmb⟩;refine ⟨some (adr mb),rfl,⟨x14.keepT _,x14.keepT _,trivial⟩,fun w16 e16=>?_⟩;have x16:EF w14 w16:=by rw [e16];exact (Ext.refl w14).drew
 have m16:=m14.ext x16 id;have y16:=(x12.then x14).then x16;refine (e_u (c_6.keep y16.keep hw) ok3 ok4 m16 few6 few7).mono ?_;rintro _ w18 ⟨sb,rfl,d18,hps⟩;have hm16:=m16.lt;refine ⟨some (adr sb),rfl,⟨d18.keepT m16 _ (by decide),d18.keepT m16 _ (by decide),trivial⟩,⟨rfl,trivial⟩,?_⟩;have y18:EF w w18:=y16.trans d18.ext fun b hb e=>by
  have:b=mb:=e;have:=x12.size;omega
 refine (e_t (hl1.keep y18.keep) (hl2.keep y18.keep) ok1 ok2 d18.mkr).mono ?_;rintro _ w21 ⟨qb,rfl,d21,hpq,hsq⟩;have y21:EF w w21:=y18.trans d21.ext fun b hb e=>by
  have:b=mb:=e;have:=x12.size;omega
 have hmk:=d21.mkr;obtain ⟨-, src,n21,hmk⟩:=hmk;refine ⟨some (adr qb),rfl,⟨d21.keepT d18.mkr _ (by decide),d21.keepT d18.mkr _ (by decide),trivial⟩,trivial,trivial,trivial,adr mb,rfl,false,(hmk.at (j:=2) rfl).cell,nofun,fun _=>⟨trivial,?_⟩⟩;have hz18:=d18.ext.size;have hz21:=d21.ext.size;have hz16:=y16.size;obtain ⟨m1,m2,m3,m4,base,qq1,qq2,qq3,tm,dm,p3,p4,hSb,hSm1,hSm2,hSm3,hSm4,hSbase,hBs,hs1,hs2,hpm,-, hn1,hn2,ho1,ho2,ho3,hpf,-⟩:=hps;have M21:∀ b,New w16 b->b<w18.heap.size->(w16.heap.size<=b/\b<w21.heap.size):=fun b hb hl=>⟨hb,by omega⟩;have k18:Keeps (New w16) (fun b=>w16.heap.size<=b/\b<w21.heap.size) w18 w21:=d21.keeps M21 fun b hb=>by
  have:w16.heap.size<=b:=hb;omega
 have kq:Keeps (New w18) (fun b=>w16.heap.size<=b/\b<w21.heap.size) w21 w21:=Keeps.all w21 fun b hb hl=>⟨by
  have:w18.heap.size<=b:=hb;omega,hl⟩
 have hd:∀ x b,PDef (New w16) w18 x b->PDef (fun b=>w16.heap.size<=b/\b<w21.heap.size) w21 x b:=fun x b=>PDef.keep k18;let c21:WCtx:=⟨fun b=>w16.heap.size<=b/\b<w21.heap.size,fun _=>False,w21,0,w21.heap.size+1,sb,qb,0,m1,m2,tm,dm,[],wd.types,wd.dirs,ops,frags,wd.query,wd.mutation,wd.subscription,fun _ _=>True,fun _=>0⟩;have b21:Base c21:=⟨fun b hb=>hb.2,k18.sub _ hSb hBs.lt,(d_O.keep kq hpq).choose_spec.choose_spec.choose_spec.choose_spec.choose_spec.choose_spec.choose_spec.1,⟨k18.sub _ hSm1 hs1.lt,k18.smap hSm1 hs1,hn1.mono hd⟩,⟨k18.sub _ hSm2 hs2.lt,k18.smap hSm2 hs2,hn2.mono fun x b=>a_Q.keep k18⟩,ok4,ok3,
  ⟨qq1,qq2,qq3,_,k18.blk hSb hBs,ho1.mono hd,ho2.mono hd,ho3.mono hd⟩,d_O.keep kq hpq,fun x hx v hv=>((ok1 x hx).2.1 v hv).1,fun x hx=>(ok1 x hx).2.2.2,fun x hx=>(ok2 x hx).2.1⟩
 have x25:EF w21 (w21.alloc (.cells #[.int .i64 0] 3)):=(Ext.refl w21).alloc _;have B25:=Blk.made w21 3 [.int .i64 0];have x26:EF w21 ((w21.alloc (.cells #[.int .i64 0] 3)).setCell ⟨w21.heap.size,0,none⟩ (.int .i64 0)):=Ext.setCell x25 (a:=⟨w21.heap.size,0,none⟩) (.inr (Nat.le_refl _)) _;have B26:=B25.set 0 (.int .i64 0);refine ⟨B25.off (j:=0) (n:=1) (q:=fun T=>Nat.beq 40 T||(Nat.beq 30 T||false)) (by simp) (by decide),trivial,?_⟩;have hz26:w21.heap.size<((w21.alloc (.cells #[.int .i64 0] 3)).setCell ⟨w21.heap.size,0,none⟩ (.int .i64 0)).heap.size:=B26.lt;generalize hw26:(w21.alloc (.cells #[.int .i64 0] 3)).setCell (adr w21.heap.size) (.int .i64 0)=w26;replace x26:EF w21 w26:=by rw [<- hw26];exact x26
 replace B26:Blk w26 w21.heap.size 3 [.int .i64 0]:=by rw [<- hw26];exact B26
 replace hz26:w21.heap.size<w26.heap.size:=by rw [<- hw26];exact hz26
 clear hw26 B25 x25;refine ⟨trivial,trivial,?_⟩;have x27:EF w26 (w26.alloc (.cells #[.slice none 0 0,.slice none 0 0,.slice none 0 0,.slice none 0 0,.slice none 0 0,.slice none 0 0,.slice none 0 0,.slice none 0 0,.slice none 0 0] 152)):=(Ext.refl w26).alloc _;have B27:=Blk.made w26 152 [.slice none 0 0,.slice none 0 0,.slice none 0 0,.slice none 0 0,.slice none 0 0,.slice none 0 0,.slice none 0 0,.slice none 0 0,.slice none 0 0];have C27:=B26.ext x27 id;generalize hw27:w26.alloc (.cells #[.slice none 0 0,.slice none 0 0,.slice none 0 0,.slice none 0 0,.slice none 0 0,.slice none 0 0,.slice none 0 0,.slice none 0 0,.slice none 0 0] 152)=w27;replace x27:EF w26 w27:=by rw [<- hw27];exact x27
 replace B27:Blk w27 w26.heap.size 152 [.slice none 0 0,.slice none 0 0,.slice none 0 0,.slice none 0 0,.slice none 0 0,.slice none 0 0,.slice none 0 0,.slice none 0 0,.slice none 0 0]:=by rw [<- hw27];exact B27
 replace C27:Blk w27 w21.heap.size 3 [.int .i64 0]:=by rw [<- hw27];exact C27
 clear hw27;have y27:=x26.then x27;obtain ⟨fn30,hfn,hbody⟩:=hr.fn;have b27:Base { later c21 c21.M w27 with eb:=w26.heap.size}:=by
  have:=b21.keep (M:=c21.M) (w:=w27) (y27.keeps (fun b hb _=>hb) fun b hb _=>id) fun b hb=>Nat.lt_of_lt_of_le hb.2 y27.size;exact ⟨this.m,this.sb,this.qb,this.m1,this.m2,this.okt,this.okd,this.sch,this.query,this.vars,this.oko,this.okf⟩
 have q27:=((PossS.of hBs rfl hSm3 hSbase hpm hpf few6).keep k18 hSb).keep (S':=c21.M) (y27.keeps (fun b hb _=>hb) fun b hb _=>id) b21.sb;refine ⟨g28,[],rfl,fn30,hfn,hbody,?_⟩;refine (hr.run { later c21 c21.M w27 with eb:=w26.heap.size} w21.heap.size rfl rfl ⟨rfl,rfl,rfl,rfl,rfl,q27,(hsq.keep kq).keep (S':=c21.M) (y27.keeps (fun b hb _=>hb) fun b hb _=>id)⟩ b27 B27 C27 (by show w21.heap.size≠w26.heap.size;omega) (by show ¬ (_/\_);omega) (by show ¬ (_/\w26.heap.size<w21.heap.size);omega)).mono ?_;rintro _ w32 ⟨rfl,x32,V,St,ob,rf,ready,hVn,hVT,hfin⟩;refine ⟨rfl,⟨Ext.keepT1 (b:=w26.heap.size) x32 B27 (by decide),Ext.keepT1 (b:=w26.heap.size) x32 B27 (by decide),trivial⟩,?_⟩;refine (j_6 ready).mono ?_;rintro _ w34 ⟨rfl,l,hSt,hTold,hx34,hwk34⟩;refine ⟨rfl,⟨k_4 hx34 hwk34 (fun _=>rfl) fun b hb T cs fr h=>(hVT b hb T cs fr h).1,k_4 hx34 hwk34 (fun _=>rfl) fun b hb T cs fr h=>(hVT b hb T cs fr h).2,trivial⟩,?_⟩;obtain ⟨n,hBn,hPn⟩:=hfin l w34 hSt hTold;refine ⟨n,(hBn.at (j:=0) rfl).cell,n,rfl,hPn,?_⟩;have y32:EF w w32:=(y21.then y27).trans x32 fun b hb e=>by
  have:b=w26.heap.size:=e;have:=y21.size;omega
 exact y32.trans hx34 fun b hb e=>by
  have hz:=x12.size;have hz':=x14.size;have hz2:=x16.size;have hzz:=y21.size;rcases e with e|e
  ·have:w16.heap.size<=b:=e.1;omega
  ·rcases hVn b e with e|e
   ·have:w16.heap.size<=b:=e.1;omega
   ·omega
theorem m_z (t T:TypeId)(i:TypeInfo)(z:Value)(bytes:Nat)(ht:Tryz.prog.underlying t=some (.slice T))(hi:Tryz.prog.info? T=some i)(hz:i.zero=some z)
  (hsize:i.size=1) (hby:i.bytes=bytes) (hzs:z.cells.size=1) (h3:bytes<=4096)  {f:Value} (hf:a_v f) (ty:TypeId) (fs:Array Bool):
  ∃ (p:Addr) (C:Nat) (w':World),(Go.builtin .append #[t,t] ty fs #[.slice none 0 0,.slice (some (adr w.heap.size)) 1 1]).run Tryz.prog (w.alloc (.cells #[f] T))=.ok (.value (.slice (some p) 1 C)) w'/\
   At w' T p f/\w.heap.size<=p.block/\EF w w'/\(∀ T',T'≠T->KeepT T' (w.alloc (.cells #[f] T)) w'):=by
 obtain ⟨A,C,w',h1,⟨cells,ho,hfl⟩,hx,hk⟩:=d_y (α:=Value) (R:=fun x cs=>cs=[x]) (xs:=[]) (x:=f) (cs:=[f]) t T i z 1 bytes ht hi hz hsize hby hzs (by omega) h3 (Own.nil w.heap.size w T 1) (Nat.le_refl _) .nil rfl (fun v hv=>by
  obtain rfl:v=f:=by simpa using hv
  exact hf) rfl (fun x cs h=>by rw [h];rfl) (by omega) ty fs
 obtain ⟨p,hA,cs,hr,hat⟩:=ho.elem hfl (by omega) (i:=0) rfl;subst hr;subst hA;have hb:=ho.base p.block ⟨p,rfl,rfl⟩;refine ⟨p,C,w',h1,?_,hb.1,hx.mono fun b hb' e=>?_,hk⟩
 ·have:=hat 0 f rfl;simpa [Addr.add] using this
 ·obtain ⟨q,hq,-⟩:=e;cases hq
theorem Ext.ceq (h:EF w w'){a:Addr}{v:Value}(ha:At w T a v):w'.cell? a=w.cell? a:=by
 rw [(h.at id ha).cell,ha.cell]
def Cnt (ae cnt m:Nat)(b:Prop)(w:World):Prop:=
 Blk w ae 223 [.func (.func 119) #[] #[.pointer (some (adr cnt))]]/\∃ n,Blk w cnt 3 [.int .i64 n]/\(m<=1152921504606846976->0<=n/\n<=m/\(n>0↔b))
theorem Cnt.ext {cnt:Nat}{X:Nat->Prop}(h:Cnt ae cnt m b w)(hx:Ext X w w')(h1:¬ X ae)(h2:¬ X cnt):Cnt ae cnt m b w':=by
 obtain ⟨k1,n,k2,k3⟩:=h;exact ⟨k1.ext hx h1,n,k2.ext hx h2,k3⟩
theorem Cnt.skip {cnt m':Nat}{b':Prop}(h:Cnt ae cnt m b w)(hm:m<=m')(hb:b↔b'):Cnt ae cnt m' b' w:=by
 obtain ⟨k1,n,k2,k3⟩:=h;refine ⟨k1,n,k2,fun hl=>?_⟩;obtain ⟨h1,h2,h3⟩:=k3 (by omega);exact ⟨h1,by omega,h3.trans hb⟩
theorem n_T {cnt:Nat}{L:Nat}(h:Cnt ae cnt m b w)(hne:ae≠cnt):
  CP 119 #[.slice A L C,.pointer (some (adr cnt))] w fun e w'=>e=.returned (.tuple #[])/\Ext (fun k=>k=cnt∨k=ae) w w'/\Cnt ae cnt (m+1) True w':=by
 obtain ⟨k1,n,k2,k3⟩:=h;have hs:Ext (fun b=>b=cnt) w (w.setCell ⟨cnt,0,none⟩ (.int .i64 (wr (n+1)))):=Ext.setCell (X:=fun b=>b=cnt) (Ext.refl _) (a:=⟨cnt,0,none⟩) (.inl rfl) _;refine h_j A L C (adr cnt) w _ ⟨n,(k2.at (j:=0) rfl).cell,k2.off (j:=0) (n:=1) (q:=fun _=>false) (by simp) rfl,trivial,rfl,hs.mono fun _ _ e=>.inl e,k1.ext hs hne,_,k2.set 0 _,fun hl=>?_⟩;obtain ⟨h1,h2,h3⟩:=k3 (by omega);rw [a_a h1 (by omega)];exact ⟨by omega,by omega,fun _=>trivial,fun _=>by omega⟩
theorem c_x {s:BA}{L:Nat}:CP 123 #[.string s,.slice A L C] w fun e w'=>∃ v,e=.returned v/\v.oneCell'=true/\EF w w':=
 h_i s A L C w _ ⟨trivial,_,rfl,rfl,(Ext.refl w).alloc _⟩
theorem j_b :CP 124 #[.pointer q] w fun e w'=>∃ v,e=.returned v/\v.oneCell'=true/\EF w w':=
 m_M q w _ ⟨trivial,_,rfl,rfl,(Ext.refl w).alloc _⟩
abbrev l_Y (ae:Nat)(X:Addr)(fmt:BA)(A:OA)(L C:Nat)(q:OA)(v18:Value)(w23:World)(K:World->Prop):Prop:=
 CP 123 #[.string fmt,.slice A L C] w23 (fun e24 wv25=>∃ v26:Value,e24=.returned v26/\True/\((wv25.cell? X=w23.cell? X)/\(wv25.cell? (adr ae)=w23.cell? (adr ae))/\True)/\
   CP 124 #[.pointer q] wv25 (fun e27 wv28=>∃ v29:Value,e27=.returned v29/\True/\((wv28.cell? (adr ae)=wv25.cell? (adr ae))/\True)/\(v26.oneCell'=true/\v29.oneCell'=true/\True)/\(let wv30:=wv28.alloc (.cells #[v26,v29] 241);
   ((wv30.cell? (adr ae)=wv28.cell? (adr ae))/\True)/\∃ (g31:FuncId) (cap32:List Value),v18=.func (.func g31) #[] cap32.toArray/\∃ fn33,Tryz.prog.funcs[g31]? =some fn33/\(fn33.name== "runtime.NumGoroutine" ||fn33.body.isNone)=false/\
   CP g31 ([Value.slice (some (adr wv28.heap.size)) 2 2]++cap32).toArray wv30 (fun e34 wv35=>e34=.returned (.tuple #[])/\True/\True/\K wv35))))
theorem tell0 {cnt:Nat}{w23:World}{X:Addr}{xv v18:Value}{fmt:BA}{L:Nat}{K:World->Prop}(hc:Cnt ae cnt m b w23)(X23:At w23 T X xv)(hne:ae≠cnt)
  (hv:v18=.func (.func 119) #[] #[.pointer (some (adr cnt))]) (hK:∀ w',Ext (fun k=>k=cnt∨k=ae) w23 w'->Cnt ae cnt (m+1) True w'->K w'):l_Y ae X fmt A L C q v18 w23 K:=by
 have a23:At w23 _ (adr ae) _:=hc.1.at (j:=0) rfl;refine c_x.mono ?_;rintro _ w25 ⟨v26,rfl,o26,x25⟩;have a25:=x25.at id a23;refine ⟨v26,rfl,trivial,⟨x25.ceq X23,x25.ceq a23,trivial⟩,?_⟩;refine j_b.mono ?_;rintro _ w28 ⟨v29,rfl,o29,x28⟩;have a28:=x28.at id a25;have x30:EF w28 (w28.alloc (.cells #[v26,v29] 241)):=(Ext.refl w28).alloc _;have y:EF w23 (w28.alloc (.cells #[v26,v29] 241)):=(x25.then x28).then x30;refine ⟨v29,rfl,trivial,⟨x28.ceq a25,trivial⟩,⟨o26,o29,trivial⟩,⟨x30.ceq a28,trivial⟩,119,[.pointer (some (adr cnt))],hv,_,Tryz.func119,by kernel_rfl,?_⟩;refine (n_T (hc.ext y id id) hne).mono ?_;rintro _ w35 ⟨rfl,x35,c35⟩;exact ⟨rfl,trivial,trivial,hK w35 ((y.toM _).trans x35 fun _ _ e=>e) c35⟩
theorem Cnt.zero {cnt:Nat}(h1:Blk w ae 223 [.func (.func 119) #[] #[.pointer (some (adr cnt))]])(h2:Blk w cnt 3 [.int .i64 0])(hb:¬ b):Cnt ae cnt 0 b w:=
 ⟨h1,0,h2,fun _=>⟨by omega,by omega,⟨fun h=>by omega,fun h=>absurd h hb⟩⟩⟩
theorem Blk.type {b:Nat}(h:Blk w b T cs){T':TypeId}{cs':Array Value}{fr:Nat × Nat}(h':objAt w b=some (.cells cs' T' fr)):T'=T:=by
 have:=h'.symm.trans h;simp only [Option.some.injEq,Obj.cells.injEq] at this;exact this.2.1
theorem u_r {cnt:Nat}{V:Nat->Prop}{St:List Ev->World->Prop}{rf:BA->Nat}(hb:Base c)(hrf:∀ n f,a_h Frag.name c.frags n=some f->rkF rf f<=rf n)(hMe:¬ c.M c.eb)(y:Ext (fun b=>b=c.eb) c.w0 w')(hV:∀ b,V b->b=cnt∨(c.w0.heap.size<=b/\b<w'.heap.size))(hcnt:cnt<c.w0.heap.size)(hce:cnt≠c.eb)(hMc:¬ c.M cnt)(hle:c.eb<c.w0.heap.size)
  (hst:∀ l w w'',St l w->Ext (fun b=>¬ V b) w w''->Wk { c with V:=V,St:=St,w0:=w',rf:=rf} w w''->St l w'') (h0:St [] w') (ev:Blk w' c.eb 152 (evsOf ob))
  (vis:∀ b5:Base { c with V:=V,St:=St,w0:=w',rf:=rf},∀ wb fm fl j,Vis (at3 { c with V:=V,St:=St,w0:=w',rf:=rf} wb fm fl) ob w' j):Ready { c with V:=V,St:=St,w0:=w',rf:=rf} ob w':=by
 have hMlt:∀ b,c.M b->b<w'.heap.size:=fun b hb'=>Nat.lt_of_lt_of_le (hb.m b hb') y.size;have b5:=hb.keep (M:=c.M) (w:=w') (y.keeps (fun b hb _=>hb) fun b hb' _ e=>by
  have:b=c.eb:=e;exact hMe (this▸hb')) hMlt
 have b5':Base { c with V:=V,St:=St,w0:=w',rf:=rf}:=⟨b5.m,b5.sb,b5.qb,b5.m1,b5.m2,b5.okt,b5.okd,b5.sch,b5.query,b5.vars,b5.oko,b5.okf⟩;refine b5'.ready (ob:=ob) hrf (fun b hb'=>?_) hst hMe ev h0 fun good wb fm fl h1 h2 h3=>vis b5' wb fm fl;rcases hV b hb' with rfl|⟨h1,h2⟩
 ·exact ⟨Nat.lt_of_lt_of_le hcnt y.size,hMc,hce⟩
 ·refine ⟨h2,fun h=>?_,by show b≠c.eb;omega⟩;have:=hb.m _ h;omega
theorem n_H {cnt:Nat}{V:Nat->Prop}{St:List Ev->World->Prop}{rf:BA->Nat}(hb:Base c)(hrf:∀ n f,a_h Frag.name c.frags n=some f->rkF rf f<=rf n)(hMe:¬ c.M c.eb)(y:Ext (fun b=>b=c.eb) c.w0 w')(hV:∀ b,V b->b=cnt∨(c.w0.heap.size<=b/\b<w'.heap.size))(hcnt:cnt<c.w0.heap.size)(hce:cnt≠c.eb)(hMc:¬ c.M cnt)(hle:c.eb<c.w0.heap.size)
  (hst:∀ l w w'',St l w->Ext (fun b=>¬ V b) w w''->St l w'') (h0:St [] w') (ev:Blk w' c.eb 152 (evsOf ob))
  (vis:∀ b5:Base { c with V:=V,St:=St,w0:=w',rf:=rf},∀ wb fm fl j,Vis (at3 { c with V:=V,St:=St,w0:=w',rf:=rf} wb fm fl) ob w' j):Ready { c with V:=V,St:=St,w0:=w',rf:=rf} ob w':=
 u_r hb hrf hMe y hV hcnt hce hMc hle (fun l w w'' h x _=>hst l w w'' h x) h0 ev vis
def obL (l:List (Nat × Addr × Nat)):Obs:=⟨fun j=>(l.find? fun x=>Nat.beq x.1 j).map (·.2.1),fun j=>if (l.find? fun x=>Nat.beq x.1 j).isSome=true then 1 else 0,fun j=>((l.find? fun x=>Nat.beq x.1 j).map (·.2.2)).getD 0,fun j=>(l.find? fun x=>Nat.beq x.1 j).isSome⟩
def VisS (c:WCtx)(w:World)(j:Nat)(p:Addr):Prop:=∃ (T:TypeId) (g:FuncId) (cap:List Value) (fn:Func),At w T p (.func (.func g) #[] cap.toArray)/\¬ c.M p.block/\¬ c.V p.block/\Tryz.prog.funcs[g]? =some fn/\(fn.name== "runtime.NumGoroutine" ||fn.body.isNone)=false/\
 ∀ (l:List Ev) (w1:World) (cx:Option OpD) (co:OA) (vm:Nat) (evs:List Value) (node:Value) (ev:Ev),c.St l w1->Wst c cx co vm evs w1->slot ev=j->f_i c cx w1 node ev->CP g ([.pointer (some (adr c.wb)),node]++cap).toArray w1 fun e w2=>e=.returned (.tuple #[])/\Ext c.V w1 w2/\c.St (l++[ev]) w2
theorem o_M {l:List (Nat × Addr × Nat)}(h:∀ x∈l,VisS c w x.1 x.2.1)(j:Nat):Vis c (obL l) w j:=by
 cases hf:l.find? fun x=>Nat.beq x.1 j with
 | none=>exact .inl ⟨by simp [obL,hf],by simp [obL,hf]⟩
 | some x=>
  obtain ⟨T,g,cap,fn,h1,h2,h3,h4,h5,h6⟩:=h x (List.mem_of_find?_eq_some hf);have hj:x.1=j:=Nat.eq_of_beq_eq_true (List.find?_some (p:=fun y:Nat × Addr × Nat=>Nat.beq y.1 j) hf);rw [hj] at h6;exact .inr (.inr ⟨by simp [obL,hf],by simp [obL,hf],x.2.1,T,g,cap,fn,by simp [obL,hf],h1,h2,h3,h4,h5,h6⟩)
def obG (l:List (Nat × Addr × Nat))(k:Nat):Obs:=⟨(obL l).A,(obL l).L,(obL l).C,fun j=>(obL l).on j||Nat.beq j k⟩
theorem Base.at3 (h:Base c)(wb fm:Nat)(fl:List (BA × Value)):Base (at3 c wb fm fl):=⟨h.m,h.sb,h.qb,h.m1,h.m2,h.okt,h.okd,h.sch,h.query,h.vars,h.oko,h.okf⟩
theorem i_p {P:α->Prop}{l:List α}{x:α}:(∃ e∈l++[x],P e)↔(∃ e∈l,P e)∨P x:=by
 constructor
 ·rintro ⟨e,he,h⟩;rcases ma_.1 he with he|he
  ·exact .inl ⟨e,he,h⟩
  ·obtain rfl:e=x:=by simpa using he
   exact .inr h
 ·rintro (⟨e,he,h⟩|h)
  ·exact ⟨e,by simp [he],h⟩
  ·exact ⟨x,by simp,h⟩
abbrev StB (bad:Ev->Prop)(ae cnt:Nat)(l:List Ev)(w:World):Prop:=Cnt ae cnt l.length (∃ e∈l,bad e) w
theorem StB.good {bad:Ev->Prop}{cnt:Nat}{l:List Ev}{ev:Ev}(h:StB bad ae cnt l w)(hb:¬ bad ev):StB bad ae cnt (l++[ev]) w:=
 Cnt.skip h (by simp) ⟨fun k=>i_p.2 (.inl k),fun k=>(i_p.1 k).elim id fun k=>absurd k hb⟩
theorem StB.told {bad:Ev->Prop}{cnt:Nat}{l:List Ev}{ev:Ev}(h:Cnt ae cnt (l.length+1) True w)(hb:bad ev):StB bad ae cnt (l++[ev]) w:=
 Cnt.skip h (by simp) ⟨fun _=>i_p.2 (.inr hb),fun _=>trivial⟩
theorem OptQ.isNone {P:α->Nat->Prop}{d:Option α}(h:OptQ P d q):q.isNone=true↔d=none:=by
 cases d with
 | none=>rw [show q=none from h];simp
 | some d=>
  obtain ⟨b,rfl,-⟩:=h;simp
end Go.VC
