/- Part of the proof of a law of a rule over documents (MakeB), where what the arguments hold is of bulk at most 1048576. -/
import Derived.Test.YtimdonbcgiakgaaGreatMakeA
set_option linter.unusedVariables false
set_option linter.unusedSectionVars false
set_option linter.deprecated false
namespace Go.VC
open Go Go.Proofs
variable [DB]
theorem d_J:Stays PSel:=fun _ _ _ _ _ _ h=>PSel.keep h
abbrev k_L (mb:Nat)(a:OA)(l c:Nat)(xs:List Sel)(w:World):Prop:=CP 160 #[.pointer (some (adr mb)),.slice a l c] w fun e w'=>∃ (A:OA) (L C:Nat),e=.returned (.slice A L C)/\Made mb w w'/\PSels (New w) w' A L C xs
theorem d_M {xs:List Sel}(IH:∀ y∈xs,∀ (mb:Nat) (a:OA) (l c:Nat) (w:World) (kids:List Sel),SizeOf.sizeOf kids<SizeOf.sizeOf y->RSels w a l c kids->a_z kids->Mk w mb->k_L mb a l c kids w)
  {mb:Nat} {a:OA} {l c:Nat} {w:World} (hl:RSels w a l c xs) (hok:a_z xs) (hm:Mk w mb):k_L mb a l c xs w:=by
 obtain ⟨el,gl⟩:=hl.len
 have hmlt:=hm.lt
 refine e_9 (some (adr mb)) a l c w _ ⟨fun A L C i w1=>0<=i/\i<=l/\L=i.toNat/\LSt 367 PSel mb w A L C (xs.take i.toNat) w1,fun _ _ _ i _=>((l:Int)-i).toNat,⟨by omega,by omega,rfl,⟨Ext.refl _,hm⟩,by simpa using Bld.nil⟩,?_⟩
 rintro A L C i w1 ⟨h0,hi,rfl,hst⟩
 have hmk1:=hst.1.mkr
 have hz1:=hst.1.ext.size
 refine ⟨fun hlt=>?_,fun hge=>?_⟩
 ·have hlt:=odt hlt
  intro K8 hK8
  obtain ⟨p,x,hp,hxs,cs,hc,hv⟩:=(RSels.keep (hst.1.keep hm) hl).get h0 hlt
  have hxm:=List.mem_of_getElem? hxs
  have hokx:=b_9.1 hok x hxm
  have ih:=IH x hxm
  obtain ⟨k,al,n,on,args,dirs,kids⟩:=x
  have hsz:SizeOf.sizeOf kids<SizeOf.sizeOf (Sel.mk k al n on args dirs kids):=by simp only [Sel.mk.sizeOf_spec];omega
  obtain ⟨a1,l1,c1,a2,l2,c2,a3,l3,c3,rfl,hv1,hv2,hv3⟩:=c_w.1 hv
  obtain ⟨⟨_,_,hc0⟩,hcs0,⟨_,_,hc1⟩,hcs1,⟨_,_,hc2⟩,hcs2,⟨_,_,hc3⟩,hcs3,⟨_,_,hc4⟩,hcs4,⟨_,_,hc5⟩,hcs5,⟨_,_,hc6⟩,hcs6,-⟩:=hc
  simp only [okSel] at hokx
  obtain ⟨hk,hargs,hdirs,hkids,-⟩:=hokx
  have key:∀ (A':OA) (C':Nat) (w':World),LSt 367 PSel mb w A' (i.toNat+1) C' (xs.take i.toNat++[.mk k al n on args dirs kids]) w'->K8 A' (i.toNat+1) C' w':=by
   intro A' C' w' st'
   refine hK8 _ _ _ _ ?_
   rw [a_a h0 (by omega)]
   refine next h0 hlt ⟨by omega,?_⟩
   rw [show (i+1).toNat=i.toNat+1 by omega,List.take_succ,hxs]
   exact st'
  have hx20:EF w1 (w1.alloc (.cells #[.int .i64 k,.string al,.string n,.string on,.slice a1 l1 c1,.slice a2 l2 c2,.slice a3 l3 c3] 84)):=(Ext.refl w1).alloc _
  refine ⟨p,hp,⟨h0,hlt⟩,_,hc0.cell,_,hc1.cell,_,hc2.cell,_,hc3.cell,_,_,_,hc4.cell,_,_,_,hc5.cell,_,_,_,hc6.cell,trivial,trivial,fun hk0=>?_,fun hk0=>⟨fun hk1=>?_,fun hk1=>⟨fun hk2=>?_,fun hk2=>?_⟩⟩⟩
  ·intro w2a e2
   have hx2:EF w1 w2a:=by rw [e2];exact hx20.drew
   clear e2
   have d2a:Made mb w1 w2a:=⟨hx2.toM _,hmk1.ext hx2 id⟩
   refine (c_D (hv1.keep (d2a.keep hmk1)) hargs d2a.mkr).mono ?_
   rintro _ w3a ⟨A3,L3,C3,rfl,e3a,f3a⟩
   refine ⟨_,_,_,rfl,⟨e3a.keepT d2a.mkr _ (by decide),trivial⟩,by simp,?_⟩
   have d3a:=d2a.trans e3a
   have z3a:=d2a.ext.size
   refine (a_k (hv2.keep (d3a.keep hmk1)) hdirs d3a.mkr).mono ?_
   rintro _ w4a ⟨A4,L4,C4,rfl,e4a,f4a⟩
   refine ⟨_,_,_,rfl,⟨e4a.keepT d3a.mkr _ (by decide),trivial⟩,by simp,?_⟩
   have d4a:=d3a.trans e4a
   have z4a:=d3a.ext.size
   refine (ih mb a3 l3 c3 w4a kids hsz (hv3.keep (d4a.keep hmk1)) hkids d4a.mkr).mono ?_
   rintro _ w5a ⟨A5,L5,C5,rfl,e5a,f5a⟩
   refine ⟨_,_,_,rfl,⟨e5a.keepT d4a.mkr _ (by decide),trivial⟩,by simp,?_⟩
   have d5a:=d4a.trans e5a
   have z5a:=d4a.ext.size
   refine (a_c d5a.mkr).mono ?_
   rintro _ w6a ⟨q,rfl,e6a⟩
   refine ⟨q,rfl,⟨e6a.keepT d5a.mkr _ (by decide),trivial⟩,by simp,?_⟩
   have d6a:=d5a.trans e6a
   have z6a:=d5a.ext.size
   refine ⟨trivial,trivial,trivial,trivial,trivial,?_⟩
   have hB:=Blk.made w6a 192 [.string al,.string n,.slice A3 L3 C3,.slice A4 L4 C4,.slice A5 L5 C5,.pointer q,.pointer none,.pointer none,.pointer none]
   have hxN:EF w6a (w6a.alloc (.cells #[.string al,.string n,.slice A3 L3 C3,.slice A4 L4 C4,.slice A5 L5 C5,.pointer q,.pointer none,.pointer none,.pointer none] 192)):=(Ext.refl _).alloc _
   have zN:=d6a.ext.size
   generalize hnb:w6a.heap.size=nb at hB zN ⊢
   generalize (w6a.alloc (.cells #[.string al,.string n,.slice A3 L3 C3,.slice A4 L4 C4,.slice A5 L5 C5,.pointer q,.pointer none,.pointer none,.pointer none] 192))=wN at hB hxN ⊢
   have dN:=d6a.then hxN
   have g3a:Made mb w3a wN:=(((e4a).trans e5a).trans e6a).then hxN
   have u3a:Keeps (New w2a) (New w1) w3a wN:=g3a.up z3a (by omega)
   have g4a:Made mb w4a wN:=((e5a).trans e6a).then hxN
   have u4a:Keeps (New w3a) (New w1) w4a wN:=g4a.up z4a (by omega)
   have g5a:Made mb w5a wN:=(e6a).then hxN
   have u5a:Keeps (New w4a) (New w1) w5a wN:=g5a.up z5a (by omega)
   obtain ⟨A',C',w',r,st',k'⟩:=hst.push (T:=367) d_J 170 Tryz.t367 _ _ (by kernel_rfl) (by kernel_rfl) rfl (by kernel_rfl) rfl (by kernel_rfl) (by decide) hmlt dN (x:=.mk k al n on args dirs kids) (v:=.iface 187 (.pointer (some (adr nb)))) rfl (a_G rfl)
    (by simp only [PSel,PSels'_iff];exact .inl ⟨by simpa using hk0,nb,A3,L3,C3,A4,L4,C4,A5,L5,C5,q,rfl,by show w1.heap.size<=nb;omega,hB,PArgs.keep u3a f3a,PDirs.keep u4a f4a,PSels.keep u5a f5a⟩) (by omega) 170 #[false,false]
   exact ⟨A',i.toNat+1,C',w',r,⟨k' _ (by decide),trivial⟩,trivial,trivial,key _ _ _ st'⟩
  ·intro w2b e2
   have hx2:EF w1 w2b:=by rw [e2];exact hx20.drew
   clear e2
   have d2b:Made mb w1 w2b:=⟨hx2.toM _,hmk1.ext hx2 id⟩
   refine (a_k (hv2.keep (d2b.keep hmk1)) hdirs d2b.mkr).mono ?_
   rintro _ w4b ⟨A4,L4,C4,rfl,e4b,f4b⟩
   refine ⟨_,_,_,rfl,⟨e4b.keepT d2b.mkr _ (by decide),trivial⟩,by simp,?_⟩
   have d4b:=d2b.trans e4b
   have z4b:=d2b.ext.size
   refine (a_c d4b.mkr).mono ?_
   rintro _ w6b ⟨q,rfl,e6b⟩
   refine ⟨q,rfl,⟨e6b.keepT d4b.mkr _ (by decide),trivial⟩,by simp,?_⟩
   have d6b:=d4b.trans e6b
   have z6b:=d4b.ext.size
   refine ⟨trivial,trivial,trivial,trivial,trivial,?_⟩
   have hB:=Blk.made w6b 164 [.string n,.slice A4 L4 C4,.pointer none,.pointer none,.pointer q,.pointer none]
   have hxN:EF w6b (w6b.alloc (.cells #[.string n,.slice A4 L4 C4,.pointer none,.pointer none,.pointer q,.pointer none] 164)):=(Ext.refl _).alloc _
   have zN:=d6b.ext.size
   generalize hnb:w6b.heap.size=nb at hB zN ⊢
   generalize (w6b.alloc (.cells #[.string n,.slice A4 L4 C4,.pointer none,.pointer none,.pointer q,.pointer none] 164))=wN at hB hxN ⊢
   have dN:=d6b.then hxN
   have g4b:Made mb w4b wN:=(e6b).then hxN
   have u4b:Keeps (New w2b) (New w1) w4b wN:=g4b.up z4b (by omega)
   obtain ⟨A',C',w',r,st',k'⟩:=hst.push (T:=367) d_J 170 Tryz.t367 _ _ (by kernel_rfl) (by kernel_rfl) rfl (by kernel_rfl) rfl (by kernel_rfl) (by decide) hmlt dN (x:=.mk k al n on args dirs kids) (v:=.iface 156 (.pointer (some (adr nb)))) rfl (a_G rfl)
    (by simp only [PSel,PSels'_iff];exact .inr (.inl ⟨by simpa using hk1,nb,A4,L4,C4,q,rfl,by show w1.heap.size<=nb;omega,hB,PDirs.keep u4b f4b⟩)) (by omega) 170 #[false,false]
   exact ⟨A',i.toNat+1,C',w',r,⟨k' _ (by decide),trivial⟩,trivial,trivial,key _ _ _ st'⟩
  ·intro w2c e2
   have hx2:EF w1 w2c:=by rw [e2];exact hx20.drew
   clear e2
   have d2c:Made mb w1 w2c:=⟨hx2.toM _,hmk1.ext hx2 id⟩
   refine (a_k (hv2.keep (d2c.keep hmk1)) hdirs d2c.mkr).mono ?_
   rintro _ w4c ⟨A4,L4,C4,rfl,e4c,f4c⟩
   refine ⟨_,_,_,rfl,⟨e4c.keepT d2c.mkr _ (by decide),trivial⟩,by simp,?_⟩
   have d4c:=d2c.trans e4c
   have z4c:=d2c.ext.size
   refine (ih mb a3 l3 c3 w4c kids hsz (hv3.keep (d4c.keep hmk1)) hkids d4c.mkr).mono ?_
   rintro _ w5c ⟨A5,L5,C5,rfl,e5c,f5c⟩
   refine ⟨_,_,_,rfl,⟨e5c.keepT d4c.mkr _ (by decide),trivial⟩,by simp,?_⟩
   have d5c:=d4c.trans e5c
   have z5c:=d4c.ext.size
   refine (a_c d5c.mkr).mono ?_
   rintro _ w6c ⟨q,rfl,e6c⟩
   refine ⟨q,rfl,⟨e6c.keepT d5c.mkr _ (by decide),trivial⟩,by simp,?_⟩
   have d6c:=d5c.trans e6c
   have z6c:=d5c.ext.size
   refine ⟨trivial,trivial,trivial,trivial,trivial,?_⟩
   have hB:=Blk.made w6c 251 [.string on,.slice A4 L4 C4,.slice A5 L5 C5,.pointer none,.pointer q,.pointer none]
   have hxN:EF w6c (w6c.alloc (.cells #[.string on,.slice A4 L4 C4,.slice A5 L5 C5,.pointer none,.pointer q,.pointer none] 251)):=(Ext.refl _).alloc _
   have zN:=d6c.ext.size
   generalize hnb:w6c.heap.size=nb at hB zN ⊢
   generalize (w6c.alloc (.cells #[.string on,.slice A4 L4 C4,.slice A5 L5 C5,.pointer none,.pointer q,.pointer none] 251))=wN at hB hxN ⊢
   have dN:=d6c.then hxN
   have g4c:Made mb w4c wN:=((e5c).trans e6c).then hxN
   have u4c:Keeps (New w2c) (New w1) w4c wN:=g4c.up z4c (by omega)
   have g5c:Made mb w5c wN:=(e6c).then hxN
   have u5c:Keeps (New w4c) (New w1) w5c wN:=g5c.up z5c (by omega)
   obtain ⟨A',C',w',r,st',k'⟩:=hst.push (T:=367) d_J 170 Tryz.t367 _ _ (by kernel_rfl) (by kernel_rfl) rfl (by kernel_rfl) rfl (by kernel_rfl) (by decide) hmlt dN (x:=.mk k al n on args dirs kids) (v:=.iface 249 (.pointer (some (adr nb)))) rfl (a_G rfl)
    (by simp only [PSel,PSels'_iff];exact .inr (.inr ⟨by simpa using hk2,nb,A4,L4,C4,A5,L5,C5,q,rfl,by show w1.heap.size<=nb;omega,hB,PDirs.keep u4c f4c,PSels.keep u5c f5c⟩)) (by omega) 170 #[false,false]
   exact ⟨A',i.toNat+1,C',w',r,⟨k' _ (by decide),trivial⟩,trivial,trivial,key _ _ _ st'⟩
  ·exfalso
   simp at hk0 hk1 hk2
   omega
 ·have hle:=odf hge
  rw [List.take_of_length_le (by omega)] at hst
  exact ⟨A,_,C,rfl,hst.1,hst.2.done d_J (by omega)⟩
theorem d_b:∀ (d:Nat) (xs:List Sel),SizeOf.sizeOf xs<d->∀ (mb:Nat) (a:OA) (l c:Nat) (w:World),RSels w a l c xs->a_z xs->Mk w mb->k_L mb a l c xs w:=by
 intro d
 induction d with
 | zero=>intro xs h;omega
 | succ d ih=>
  intro xs h mb a l c w hl hok hm
  refine d_M (fun y hy mb a l c w kids hlt hk hok hm=>ih kids ?_ mb a l c w hk hok hm) hl hok hm
  have:=List.sizeOf_lt_of_mem hy
  omega
theorem c_F {mb:Nat}{xs:List Sel}{a:OA}{l c:Nat}{w:World}(hl:RSels w a l c xs)(hok:a_z xs)(hm:Mk w mb):k_L mb a l c xs w:=
 d_b _ xs (Nat.lt_succ_self _) mb a l c w hl hok hm
structure NSt {α:Type} (T:TypeId) (P:(Nat->Prop)->World->α->Value->Prop) (mb nb:Nat) (w8:World) (nodeT:TypeId) (cells:OA->Nat->Nat->List Value) (A:OA) (L C:Nat) (xs:List α) (w1:World):Prop where
 ext:Ext (X2 mb nb) w8 w1
 mkr:Mk w1 mb
 blk:Blk w1 nb nodeT (cells A L C)
 bld:Bld T P w8.heap.size w1 A L C xs
theorem NSt.push {α:Type}{T:TypeId}{P:(Nat->Prop)->World->α->Value->Prop}{mb nb:Nat}{w8:World}{nodeT:TypeId}{cells:OA->Nat->Nat->List Value}{A:OA}{L C:Nat}{xs:List α}{w1:World}{j:Nat}(h:NSt T P mb nb w8 nodeT cells A L C xs w1)
  (hP:Stays P) (t:TypeId) (i:TypeInfo) (z:Value) (bytes:Nat) (ht:Tryz.prog.underlying t=some (.slice T)) (hi:Tryz.prog.info? T=some i) (hz:i.zero=some z)
  (hsize:i.size=1) (hby:i.bytes=bytes) (hzs:z.cells.size=1) (h3:bytes<=4096) (hmb:mb<w8.heap.size) (hnb:nb<w8.heap.size) (hne:nb≠mb)
  (hcells:∀ A L C A' L' C',(cells A L C).set j (.slice A' L' C')=cells A' L' C')
  {wN:World} (d:Made mb w1 wN) {x:α} {v:Value} (hv:v.oneCell'=true) (hsv:a_v v) (hpx:P (New w1) wN x v) (h2:L+1<=16777216) (ty:TypeId) (fs:Array Bool):
  ∃ (A':OA) (C':Nat) (w':World),(Go.builtin .append #[t,t] ty fs #[.slice A L C,.slice (some (adr wN.heap.size)) 1 1]).run Tryz.prog (wN.alloc (.cells #[v] T))=.ok (.value (.slice A' (L+1) C')) w'/\
   (∀ T',T'≠T->KeepT T' (wN.alloc (.cells #[v] T)) w')/\Blk w' nb nodeT (cells A L C)/\NSt T P mb nb w8 nodeT cells A' (L+1) C' (xs++[x]) (w'.setCell ⟨nb,j,none⟩ (.slice A' (L+1) C')):=by
 obtain ⟨h1,hm1,hB,hb⟩:=h
 have z1:=h1.size
 have bN:Bld T P w8.heap.size wN A L C xs:=hb.keep hP d.ext fun b hb _ e=>by
  have:b=mb:=e
  omega
 obtain ⟨A',C',w',r,b',x',k',-⟩:=bN.push hP t i z bytes ht hi hz hsize hby hzs h3 (Nat.le_trans z1 d.ext.size) hv hsv (S:=New w1) (fun b hb' _=>⟨Nat.le_trans z1 hb',fun hA=>by
  have:=(OwnR.ge hb b hA).2
  have:w1.heap.size<=b:=hb'
  omega⟩) hpx h2 ty fs
 have B':Blk w' nb nodeT (cells A L C):=(d.blk hB hne).ext x' (OwnR.ne bN (.inl hnb))
 have hset:Ext (XM nb) w' (w'.setCell ⟨nb,j,none⟩ (.slice A' (L+1) C')):=Ext.setCell (X:=XM nb) (Ext.refl w') (a:=⟨nb,j,none⟩) (.inl rfl) _
 refine ⟨A',C',w',r,k',B',((h1.trans d.ext2 fun _ _ h=>h).trans x' fun b hb' hbl=>(OwnR.ne bN (.inl hb') hbl).elim).trans (hset.mono fun _ _ e=>.inr e) fun _ _ h=>h,(d.mkr.ext x' (OwnR.ne bN (.inl hmb))).ext hset fun e=>hne e.symm,?_,b'.keep hP hset fun b hb' _ e=>?_⟩
 ·have:=B'.set j (.slice A' (L+1) C')
  rwa [hcells] at this
 ·have:b=nb:=e
  omega
theorem j_T:Stays fun S w=>Ptr (POp S w):=fun _ _ _ _ _ _ h=>Ptr.keep fun _ _=>POp.keep h
theorem g_Q:Stays fun S w=>Ptr (PFrag S w):=fun _ _ _ _ _ _ h=>Ptr.keep fun _ _=>PFrag.keep h
def d_O (S:Nat->Prop)(w:World)(ops:List OpD)(frags:List Frag)(b:Nat):Prop:=∃ (A1:OA) (L1 C1:Nat) (A2:OA) (L2 C2:Nat) (pos:OA),S b/\
 Blk w b 285 [.slice A1 L1 C1,.slice A2 L2 C2,.pointer pos,.pointer none]/\POps S w A1 L1 C1 ops/\h_r S w A2 L2 C2 frags
theorem e_t {mb:Nat}{a1:OA}{l1 c1:Nat}{a2:OA}{l2 c2:Nat}{ops:List OpD}{frags:List Frag}{w:World}(hl1:ROps w a1 l1 c1 ops)(hl2:a_X w a2 l2 c2 frags)(ok1:∀ x∈ops,okOp x)(ok2:∀ x∈frags,b_j x)(hm:Mk w mb):
  CP 101 #[.pointer (some (adr mb)),.agg #[.slice a1 l1 c1,.slice a2 l2 c2]] w fun e w'=>∃ b,e=.returned (.pointer (some (adr b)))/\Made mb w w'/\d_O (New w) w' ops frags b:=by
 obtain ⟨el1,gl1⟩:=hl1.len
 obtain ⟨el2,gl2⟩:=hl2.len
 have hmlt:=hm.lt
 refine e_J (some (adr mb)) a1 l1 c1 a2 l2 c2 w _ ⟨trivial,?_⟩
 have hx4:EF w (w.alloc (.cells #[.slice a1 l1 c1,.slice a2 l2 c2] 30)):=(Ext.refl w).alloc _
 refine (a_c (hm.ext hx4 id)).mono ?_
 rintro _ w6 ⟨q,rfl,d6⟩
 refine ⟨q,rfl,⟨d6.keepT (hm.ext hx4 id) _ (by decide),trivial⟩,trivial,trivial,?_⟩
 have d6':=Made.pre hx4 d6
 have B8:=Blk.made w6 285 [.slice none 0 0,.slice none 0 0,.pointer q,.pointer none]
 have hx8:EF w6 (w6.alloc (.cells #[.slice none 0 0,.slice none 0 0,.pointer q,.pointer none] 285)):=(Ext.refl w6).alloc _
 have hz8:(w6.alloc (.cells #[.slice none 0 0,.slice none 0 0,.pointer q,.pointer none] 285)).heap.size=w6.heap.size+1:=by simp
 have hz6:=d6'.ext.size
 generalize (w6.alloc (.cells #[.slice none 0 0,.slice none 0 0,.pointer q,.pointer none] 285))=w8 at B8 hx8 hz8 ⊢
 generalize hnb6:w6.heap.size=nb at B8 hz8 hz6 ⊢
 have d8:=d6'.then hx8
 have hne:nb≠mb:=by omega
 have hmb:mb<w8.heap.size:=by omega
 have hnb:nb<w8.heap.size:=by omega
 have kd8:=d8.keep hm
 have kn:∀ {w1:World},Ext (X2 mb nb) w8 w1->Keep w w1:=fun h=>kd8.trans (by
  obtain ⟨hB0,src,n,hmm⟩:=d8.mkr
  exact h.keep2 hmm B8 (by decide) (by decide) hB0 (by omega))
 refine ⟨fun i w1=>0<=i/\i<=l1/\∃ (A:OA) (L C:Nat),L=i.toNat/\NSt 237 (fun S w=>Ptr (POp S w)) mb nb w8 285 (fun A L C=>[.slice A L C,.slice none 0 0,.pointer q,.pointer none]) A L C (ops.take i.toNat) w1,
  fun i _=>((l1:Int)-i).toNat,⟨by omega,by omega,none,0,0,rfl,Ext.refl _,d8.mkr,B8,by simpa using Bld.nil⟩,?_⟩
 rintro i w1 ⟨h0,hi,A,_,C,rfl,hst⟩
 have hz1:=hst.ext.size
 have hk1:=kn hst.ext
 refine ⟨fun hlt=>?_,fun hge=>?_⟩
 ·have hlt:=odt hlt
  obtain ⟨p,x,hp,hxs,cs,hc,b1,m1,n1,b2,m2,n2,b3,m3,n3,rfl,hv1,hv2,hv3⟩:=(hl1.keep hk1).get h0 hlt
  obtain ⟨⟨_,_,hc0⟩,hcs0,⟨_,_,hc1⟩,hcs1,⟨_,_,hc2⟩,hcs2,⟨_,_,hc3⟩,hcs3,⟨_,_,hc4⟩,hcs4,-⟩:=hc
  obtain ⟨okk,okv,okd,oks⟩:=ok1 x (List.mem_of_getElem? hxs)
  refine ⟨p,hp,⟨h0,hlt⟩,_,hc0.cell,_,hc1.cell,_,_,_,hc2.cell,_,_,_,hc3.cell,_,_,_,hc4.cell,trivial,trivial,fun K21 hK21=>?_⟩
  have hx20:EF w1 (w1.alloc (.cells #[.string x.kind,.string x.name,.slice b1 m1 n1,.slice b2 m2 n2,.slice b3 m3 n3] 51)):=(Ext.refl w1).alloc _
  have hm20:=hst.mkr.ext hx20 id
  generalize (w1.alloc (.cells #[.string x.kind,.string x.name,.slice b1 m1 n1,.slice b2 m2 n2,.slice b3 m3 n3] 51))=w20 at hx20 hm20 ⊢
  obtain ⟨hB0,src,num,hmm⟩:=hm20
  have key:K21 (w20.setCell ((adr mb).add 2) (.bool false)):=by
   have hset:Ext (XM mb) w20 (w20.setCell ((adr mb).add 2) (.bool false)):=Ext.setCell (X:=XM mb) (Ext.refl w20) (a:=(adr mb).add 2) (.inl rfl) _
   have d22:Made mb w1 (w20.setCell ((adr mb).add 2) (.bool false)):=Made.pre hx20 ⟨hset,hB0,_,_,hmm.set 2 (.bool false)⟩
   refine hK21 _ fun w2a e2=>?_
   have d2a:Made mb w1 w2a:=by rw [e2];exact d22.then (Ext.refl _).drew
   clear e2
   have B2a:=d2a.blk hst.blk hne
   refine ⟨A,i.toNat,C,(B2a.at (j:=0) rfl).cell,?_⟩
   refine (e_W (hv1.keep (d2a.keep hst.mkr)) okv d2a.mkr).mono ?_
   rintro _ w3a ⟨A3,L3,C3,rfl,e3a,f3a⟩
   have B3a:=e3a.blk B2a hne
   refine ⟨_,_,_,rfl,⟨e3a.keepT d2a.mkr _ (by decide),e3a.keepT d2a.mkr _ (by decide),trivial⟩,by simp [show w3a.cell? (adr nb)=w2a.cell? (adr nb) from ((B3a.at (j:=0) rfl).cell).trans ((B2a.at (j:=0) rfl).cell).symm],?_⟩
   have d3a:=d2a.trans e3a
   have z3a:=d2a.ext.size
   refine (a_k (hv2.keep (d3a.keep hst.mkr)) okd d3a.mkr).mono ?_
   rintro _ w4a ⟨A4,L4,C4,rfl,e4a,f4a⟩
   have B4a:=e4a.blk B3a hne
   refine ⟨_,_,_,rfl,⟨e4a.keepT d3a.mkr _ (by decide),e4a.keepT d3a.mkr _ (by decide),trivial⟩,by simp [show w4a.cell? (adr nb)=w3a.cell? (adr nb) from ((B4a.at (j:=0) rfl).cell).trans ((B3a.at (j:=0) rfl).cell).symm],?_⟩
   have d4a:=d3a.trans e4a
   have z4a:=d3a.ext.size
   refine (c_F (hv3.keep (d4a.keep hst.mkr)) oks d4a.mkr).mono ?_
   rintro _ w5a ⟨A5,L5,C5,rfl,e5a,f5a⟩
   have B5a:=e5a.blk B4a hne
   refine ⟨_,_,_,rfl,⟨e5a.keepT d4a.mkr _ (by decide),e5a.keepT d4a.mkr _ (by decide),trivial⟩,by simp [show w5a.cell? (adr nb)=w4a.cell? (adr nb) from ((B5a.at (j:=0) rfl).cell).trans ((B4a.at (j:=0) rfl).cell).symm],?_⟩
   have d5a:=d4a.trans e5a
   have z5a:=d4a.ext.size
   refine (a_c d5a.mkr).mono ?_
   rintro _ w6a ⟨q6,rfl,e6a⟩
   have B6a:=e6a.blk B5a hne
   refine ⟨q6,rfl,⟨e6a.keepT d5a.mkr _ (by decide),e6a.keepT d5a.mkr _ (by decide),trivial⟩,by simp [show w6a.cell? (adr nb)=w5a.cell? (adr nb) from ((B6a.at (j:=0) rfl).cell).trans ((B5a.at (j:=0) rfl).cell).symm],?_⟩
   have d6a:=d5a.trans e6a
   have z6a:=d5a.ext.size
   refine ⟨trivial,trivial,?_⟩
   have hB:=Blk.made w6a 291 [.string E0,.string x.kind,.string x.name,.slice A3 L3 C3,.slice A4 L4 C4,.slice A5 L5 C5,.pointer q6,.pointer none]
   have hxN:EF w6a (w6a.alloc (.cells #[.string E0,.string x.kind,.string x.name,.slice A3 L3 C3,.slice A4 L4 C4,.slice A5 L5 C5,.pointer q6,.pointer none] 291)):=(Ext.refl _).alloc _
   have zN:=d6a.ext.size
   generalize hcb:w6a.heap.size=cb at hB zN ⊢
   generalize (w6a.alloc (.cells #[.string E0,.string x.kind,.string x.name,.slice A3 L3 C3,.slice A4 L4 C4,.slice A5 L5 C5,.pointer q6,.pointer none] 291))=wN at hB hxN ⊢
   have dN:=d6a.then hxN
   have BN:=B6a.ext hxN id
   have g3a:Made mb w3a wN:=(((e4a).trans e5a).trans e6a).then hxN
   have u3a:Keeps (New w2a) (New w1) w3a wN:=g3a.up z3a (by omega)
   have g4a:Made mb w4a wN:=((e5a).trans e6a).then hxN
   have u4a:Keeps (New w3a) (New w1) w4a wN:=g4a.up z4a (by omega)
   have g5a:Made mb w5a wN:=(e6a).then hxN
   have u5a:Keeps (New w4a) (New w1) w5a wN:=g5a.up z5a (by omega)
   obtain ⟨A',C',w',r,k',B',st'⟩:=hst.push (T:=237) (j:=0) j_T 281 Tryz.t237 _ _ (by kernel_rfl) (by kernel_rfl) rfl (by kernel_rfl) rfl (by kernel_rfl) (by decide) hmb hnb hne (fun _ _ _ _ _ _=>rfl) dN (x:=x) (v:=.pointer (some (adr cb))) rfl (a_G rfl)
    ⟨cb,rfl,A3,L3,C3,A4,L4,C4,A5,L5,C5,q6,by show w1.heap.size<=cb;omega,hB,PVars.keep u3a f3a,PDirs.keep u4a f4a,PSels.keep u5a f5a⟩ (by omega) 281 #[false,false]
   have hxE:EF wN (wN.alloc (.cells #[.pointer (some (adr cb))] 237)):=(Ext.refl wN).alloc _
   refine ⟨⟨((BN.at (j:=0) rfl).cell).trans ((B6a.at (j:=0) rfl).cell).symm,trivial⟩,trivial,⟨(((BN.ext hxE id).at (j:=0) rfl).cell).trans ((BN.at (j:=0) rfl).cell).symm,trivial⟩,A',i.toNat+1,C',w',r,⟨k' _ (by decide),k' _ (by decide),trivial⟩,trivial,
    B'.off (j:=0) (n:=1) (by simp) (q:=fun T=>(Nat.beq 30 T||(Nat.beq 51 T||false))) rfl,trivial,trivial,?_⟩
   rw [a_a h0 (by omega)]
   refine next h0 hlt ⟨A',i.toNat+1,C',by omega,?_⟩
   rw [show (i+1).toNat=i.toNat+1 by omega,List.take_succ,hxs]
   exact st'
  refine ⟨adr mb,rfl,false,(hmm.at (j:=2) rfl).cell,fun _=>⟨fun h1=>⟨fun h2=>⟨adr mb,rfl,hmm.off (j:=2) (n:=1) (by simp) (q:=fun T=>(Nat.beq 30 T||(Nat.beq 51 T||false))) rfl,trivial,?_⟩,fun h2=>⟨adr mb,rfl,hmm.off (j:=2) (n:=1) (by simp) (q:=fun T=>(Nat.beq 30 T||(Nat.beq 51 T||false))) rfl,trivial,key⟩⟩,
   fun h1=>⟨adr mb,rfl,hmm.off (j:=2) (n:=1) (by simp) (q:=fun T=>(Nat.beq 30 T||(Nat.beq 51 T||false))) rfl,trivial,key⟩⟩,fun h=>by cases h⟩
  have hs:x.kind=bSub:=by
   rcases okk with h|h|h
   ·exact absurd h (g_r h1)
   ·exact absurd h (g_r h2)
   ·exact h
  rw [show (!(x.kind.toList==(⟨#[115,117,98,115,99,114,105,112,116,105,111,110]⟩:BA).toList))=false from by rw [hs];simp]
  exact key
 ·have hle:=odf hge
  rw [List.take_of_length_le (by omega)] at hst
  have hops:=hst.bld.done j_T (by omega)
  have hx1:=hst.ext
  have hB1:=hst.blk
  have hmk1:=hst.mkr
  clear hge hst
  have hne1:nb<w1.heap.size:=by omega
  refine ⟨fun j w2=>0<=j/\j<=l2/\∃ (A2:OA) (L2 C2:Nat),L2=j.toNat/\NSt 160 (fun S w=>Ptr (PFrag S w)) mb nb w1 285 (fun A2 L2 C2=>[.slice A i.toNat C,.slice A2 L2 C2,.pointer q,.pointer none]) A2 L2 C2 (frags.take j.toNat) w2,
   fun j _=>((l2:Int)-j).toNat,⟨by omega,by omega,none,0,0,rfl,Ext.refl _,hmk1,hB1,by simpa using Bld.nil⟩,?_⟩
  have hmbw:mb<w1.heap.size:=by omega
  have X1:Ext (X2 mb nb) w8 w1:=hx1
  clear hk1
  obtain ⟨w9,hw9⟩:∃ w9,w9=w1:=⟨w1,rfl⟩
  subst hw9
  have hmb:=hmbw
  have hnb:=hne1
  generalize hL:i.toNat=L0 at *
  clear h0 hi hL hle
  rintro i w1 ⟨h0,hi,A2,_,C2,rfl,hst⟩
  have hz1:=hst.ext.size
  have hk1:=kn (X1.trans hst.ext fun _ _ h=>h)
  refine ⟨fun hlt=>?_,fun hge=>?_⟩
  ·have hlt:=odt hlt
   obtain ⟨p,x,hp,hxs,cs,hc,b2,m2,n2,b3,m3,n3,rfl,hv2,hv3⟩:=(hl2.keep hk1).get h0 hlt
   obtain ⟨⟨_,_,hc0⟩,hcs0,⟨_,_,hc1⟩,hcs1,⟨_,_,hc2⟩,hcs2,⟨_,_,hc3⟩,hcs3,-⟩:=hc
   obtain ⟨okd,oks,-⟩:=ok2 x (List.mem_of_getElem? hxs)
   refine ⟨p,hp,⟨h0,hlt⟩,_,hc0.cell,_,hc1.cell,_,_,_,hc2.cell,_,_,_,hc3.cell,trivial,trivial,fun w2a e2=>?_⟩
   have hx2:EF w1 w2a:=by rw [e2];exact ((Ext.refl w1).alloc _).drew
   clear e2
   have d2a:Made mb w1 w2a:=⟨hx2.toM _,hst.mkr.ext hx2 id⟩
   have B2a:=d2a.blk hst.blk hne
   refine ⟨A2,i.toNat,C2,(B2a.at (j:=1) rfl).cell,?_⟩
   refine (a_k (hv2.keep (d2a.keep hst.mkr)) okd d2a.mkr).mono ?_
   rintro _ w4a ⟨A4,L4,C4,rfl,e4a,f4a⟩
   have B4a:=e4a.blk B2a hne
   refine ⟨_,_,_,rfl,⟨e4a.keepT d2a.mkr _ (by decide),e4a.keepT d2a.mkr _ (by decide),trivial⟩,by simp [show w4a.cell? ((adr nb).add 1)=w2a.cell? ((adr nb).add 1) from ((B4a.at (j:=1) rfl).cell).trans ((B2a.at (j:=1) rfl).cell).symm],?_⟩
   have d4a:=d2a.trans e4a
   have z4a:=d2a.ext.size
   refine (c_F (hv3.keep (d4a.keep hst.mkr)) oks d4a.mkr).mono ?_
   rintro _ w5a ⟨A5,L5,C5,rfl,e5a,f5a⟩
   have B5a:=e5a.blk B4a hne
   refine ⟨_,_,_,rfl,⟨e5a.keepT d4a.mkr _ (by decide),e5a.keepT d4a.mkr _ (by decide),trivial⟩,by simp [show w5a.cell? ((adr nb).add 1)=w4a.cell? ((adr nb).add 1) from ((B5a.at (j:=1) rfl).cell).trans ((B4a.at (j:=1) rfl).cell).symm],?_⟩
   have d5a:=d4a.trans e5a
   have z5a:=d4a.ext.size
   refine (a_c d5a.mkr).mono ?_
   rintro _ w6a ⟨q6,rfl,e6a⟩
   have B6a:=e6a.blk B5a hne
   refine ⟨q6,rfl,⟨e6a.keepT d5a.mkr _ (by decide),e6a.keepT d5a.mkr _ (by decide),trivial⟩,by simp [show w6a.cell? ((adr nb).add 1)=w5a.cell? ((adr nb).add 1) from ((B6a.at (j:=1) rfl).cell).trans ((B5a.at (j:=1) rfl).cell).symm],?_⟩
   have d6a:=d5a.trans e6a
   have z6a:=d5a.ext.size
   refine ⟨trivial,trivial,?_⟩
   have hB:=Blk.made w6a 172 [.string E0,.string x.name,.slice none 0 0,.string x.on,.slice A4 L4 C4,.slice A5 L5 C5,.pointer none,.pointer q6,.pointer none]
   have hxN:EF w6a (w6a.alloc (.cells #[.string E0,.string x.name,.slice none 0 0,.string x.on,.slice A4 L4 C4,.slice A5 L5 C5,.pointer none,.pointer q6,.pointer none] 172)):=(Ext.refl _).alloc _
   have zN:=d6a.ext.size
   generalize hcb:w6a.heap.size=cb at hB zN ⊢
   generalize (w6a.alloc (.cells #[.string E0,.string x.name,.slice none 0 0,.string x.on,.slice A4 L4 C4,.slice A5 L5 C5,.pointer none,.pointer q6,.pointer none] 172))=wN at hB hxN ⊢
   have dN:=d6a.then hxN
   have BN:=B6a.ext hxN id
   have g4a:Made mb w4a wN:=((e5a).trans e6a).then hxN
   have u4a:Keeps (New w2a) (New w1) w4a wN:=g4a.up z4a (by omega)
   have g5a:Made mb w5a wN:=(e6a).then hxN
   have u5a:Keeps (New w4a) (New w1) w5a wN:=g5a.up z5a (by omega)
   obtain ⟨A',C',w',r,k',B',st'⟩:=hst.push (T:=160) (j:=1) g_Q 283 Tryz.t160 _ _ (by kernel_rfl) (by kernel_rfl) rfl (by kernel_rfl) rfl (by kernel_rfl) (by decide) hmb hnb hne (fun _ _ _ _ _ _=>rfl) dN (x:=x) (v:=.pointer (some (adr cb))) rfl (a_G rfl)
    ⟨cb,rfl,A4,L4,C4,A5,L5,C5,q6,by show w1.heap.size<=cb;omega,hB,PDirs.keep u4a f4a,PSels.keep u5a f5a⟩ (by omega) 283 #[false,false]
   have hxE:EF wN (wN.alloc (.cells #[.pointer (some (adr cb))] 160)):=(Ext.refl wN).alloc _
   refine ⟨⟨((BN.at (j:=1) rfl).cell).trans ((B6a.at (j:=1) rfl).cell).symm,trivial⟩,trivial,⟨(((BN.ext hxE id).at (j:=1) rfl).cell).trans ((BN.at (j:=1) rfl).cell).symm,trivial⟩,A',i.toNat+1,C',w',r,⟨k' _ (by decide),k' _ (by decide),trivial⟩,trivial,
    B'.off (j:=1) (n:=1) (by simp) (q:=fun T=>(Nat.beq 30 T||(Nat.beq 63 T||false))) rfl,trivial,trivial,?_⟩
   rw [a_a h0 (by omega)]
   refine next h0 hlt ⟨A',i.toNat+1,C',by omega,?_⟩
   rw [show (i+1).toNat=i.toNat+1 by omega,List.take_succ,hxs]
   exact st'
  ·have hle:=odf hge
   rw [List.take_of_length_le (by omega)] at hst
   have hfr:=hst.bld.done g_Q (by omega)
   have hxx:=X1.trans hst.ext fun _ _ h=>h
   have kf:Keeps (fun b=>w9.heap.size<=b) (New w) w1 w1:=Keeps.all w1 fun b hb _=>by
    have:w9.heap.size<=b:=hb
    have:=X1.size
    show w.heap.size<=b
    omega
   have ko:Keeps (fun b=>w8.heap.size<=b) (New w) w9 w1:=hst.ext.keeps (fun b hb _=>by
    have:w8.heap.size<=b:=hb
    show w.heap.size<=b
    omega) fun b hb _ e=>by
    have:w8.heap.size<=b:=hb
    rcases e with e|e<;>omega
   refine ⟨nb,rfl,⟨d8.ext.trans hxx fun b hb e=>?_,hst.mkr⟩,A,L0,C,A2,i.toNat,C2,q,hz6,hst.blk,PSl.keep ko hops fun x _ v=>Ptr.keep fun _ _=>POp.keep ko,PSl.keep kf hfr fun x _ v=>Ptr.keep fun _ _=>PFrag.keep kf⟩
   rcases e with e|e
   ·exact e
   ·omega
theorem a_j {k b:Nat}(h:blkOf (some (adr k)) b):b=k:=by
 obtain ⟨p,hp,rfl⟩:=h
 simp only [Option.some.injEq] at hp
 rw [<- hp]
theorem OwnS.psl {base:Nat}{w:World}{A:OA}{L C:Nat}{xs:List BA}(h:OwnS base w A L C xs)(hl:L<=4194304):PStrs (fun b=>base<=b) w A L C xs:=by
 obtain ⟨g1,g2,g3,-⟩:=h.sl hl
 obtain ⟨cells,o,f⟩:=h
 refine ⟨g1,g2,g3,fun i s hi=>?_⟩
 obtain ⟨p,hp,cs,⟨rfl,-⟩,hat⟩:=o.elem f (by omega) hi
 refine ⟨p,_,hp,(o.base p.block ⟨p,hp,rfl⟩).1,?_,rfl⟩
 have:=hat 0 _ rfl
 rwa [Nat.mul_one,Nat.add_zero] at this
theorem h_1:Stays fun S w=>Ptr (PFld S w):=fun _ _ _ _ _ _ h=>Ptr.keep fun _ _=>PFld.keep h
theorem g_P:Stays fun S w=>Ptr (PEnum S w):=fun _ _ _ _ _ _ h=>Ptr.keep fun _ _=>PEnum.keep h
theorem h_Z:Stays fun S w=>Ptr (PDef S w):=fun _ _ _ _ _ _ h=>Ptr.keep fun _ _=>PDef.keep h
set_option maxHeartbeats 1000000 in
theorem c_E {mb:Nat}{a:OA}{l c:Nat}{xs:List Def}{w:World}(hl:RDefs w a l c xs)(hok:∀ x∈xs,okDef x)(hm:Mk w mb):
  CP 181 #[.pointer (some (adr mb)),.slice a l c] w fun e w'=>∃ (A:OA) (L C:Nat),e=.returned (.slice A L C)/\Made mb w w'/\PDefs (New w) w' A L C xs:=by
 obtain ⟨el,gl⟩:=hl.len
 have hmlt:=hm.lt
 refine e_7 (some (adr mb)) a l c w _ ⟨fun A L C i w1=>0<=i/\i<=l/\L=i.toNat/\LSt 159 (fun S w=>Ptr (PDef S w)) mb w A L C (xs.take i.toNat) w1,fun _ _ _ i _=>((l:Int)-i).toNat,⟨by omega,by omega,rfl,⟨Ext.refl _,hm⟩,by simpa using Bld.nil⟩,?_⟩
 rintro A L C i w1 ⟨h0,hi,rfl,hst⟩
 have hmk1:=hst.1.mkr
 have hz1:=hst.1.ext.size
 have hmb1:mb<w1.heap.size:=by omega
 refine ⟨fun hlt=>?_,fun hge=>?_⟩
 ·have hlt:=odt hlt
  have hlt':=hlt
  obtain ⟨p,x,hp,hxs,cs,hc,b1,m1,n1,b2,m2,n2,b3,m3,n3,b4,m4,n4,b5,m5,n5,rfl,hv1,hv2,hv3,hv4,hv5⟩:=(hl.keep (hst.1.keep hm)).get h0 hlt
  obtain ⟨⟨_,_,hc0⟩,hcs0,⟨_,_,hc1⟩,hcs1,⟨_,_,hc2⟩,hcs2,⟨_,_,hc3⟩,hcs3,⟨_,_,hc4⟩,hcs4,⟨_,_,hc5⟩,hcs5,⟨_,_,hc6⟩,hcs6,⟨_,_,hc7⟩,hcs7,-⟩:=hc
  have hxm:=List.mem_of_getElem? hxs
  obtain ⟨okk,okd,okf,oke,-⟩:=hok x hxm
  have g2:=hv2.len
  have g3:=hv3.len
  have g4:=hv4.len
  have g5:=hv5.len
  refine ⟨p,hp,⟨h0,hlt⟩,_,hc0.cell,_,hc1.cell,_,hc2.cell,_,_,_,hc3.cell,_,_,_,hc4.cell,_,_,_,hc5.cell,_,_,_,hc6.cell,_,_,_,hc7.cell,trivial,trivial,fun K19 hK19=>?_⟩
  have key19:∀ (A0:OA) (L0 C0:Nat) (A1:OA) (C1:Nat) (A2:OA) (C2:Nat) (q0:OA) (wp:World),Made mb w1 wp->PDirs (New w1) wp A0 L0 C0 x.dirs->OwnS w1.heap.size wp A1 m2 C1 x.ifaces->OwnS w1.heap.size wp A2 m4 C2 x.types->
    K19 (some (adr wp.heap.size)) (wp.alloc (.cells #[.string x.kind,.string x.doc,.string x.name,.slice A0 L0 C0,.slice A1 m2 C1,.slice none 0 0,.slice A2 m4 C2,.slice none 0 0,.pointer q0,.slice none 0 0,.bool false,.pointer none,.pointer none,.pointer none] 236)):=by
   intro A0 L0 C0 A1 C1 A2 C2 q0 wp dp hd hp1 hp2
   have B8:=Blk.made wp 236 [.string x.kind,.string x.doc,.string x.name,.slice A0 L0 C0,.slice A1 m2 C1,.slice none 0 0,.slice A2 m4 C2,.slice none 0 0,.pointer q0,.slice none 0 0,.bool false,.pointer none,.pointer none,.pointer none]
   have hx8:EF wp (wp.alloc (.cells #[.string x.kind,.string x.doc,.string x.name,.slice A0 L0 C0,.slice A1 m2 C1,.slice none 0 0,.slice A2 m4 C2,.slice none 0 0,.pointer q0,.slice none 0 0,.bool false,.pointer none,.pointer none,.pointer none] 236)):=(Ext.refl _).alloc _
   have hz8:(wp.alloc (.cells #[.string x.kind,.string x.doc,.string x.name,.slice A0 L0 C0,.slice A1 m2 C1,.slice none 0 0,.slice A2 m4 C2,.slice none 0 0,.pointer q0,.slice none 0 0,.bool false,.pointer none,.pointer none,.pointer none] 236)).heap.size=wp.heap.size+1:=by simp
   have hzp:=dp.ext.size
   generalize (wp.alloc (.cells #[.string x.kind,.string x.doc,.string x.name,.slice A0 L0 C0,.slice A1 m2 C1,.slice none 0 0,.slice A2 m4 C2,.slice none 0 0,.pointer q0,.slice none 0 0,.bool false,.pointer none,.pointer none,.pointer none] 236))=w8 at B8 hx8 hz8 ⊢
   generalize hnb0:wp.heap.size=nb at B8 hz8 hzp ⊢
   have d8:=dp.then hx8
   have kin:Keeps (New w1) (fun b=>w1.heap.size<=b/\b<nb) wp w8:=hx8.keeps (fun b hb hl=>⟨hb,by omega⟩) fun _ _ _=>id
   have hd8:=PDirs.keep kin hd
   have hp18:=PStrs.keep kin (hp1.psl g2.2)
   have hp28:=PStrs.keep kin (hp2.psl g4.2)
   have hne:nb≠mb:=by omega
   have hmb:mb<w8.heap.size:=by omega
   have hnb:nb<w8.heap.size:=by omega
   have kd8:=d8.keep hmk1
   have kn:∀ {w2:World},Ext (X2 mb nb) w8 w2->Keep w1 w2:=fun h=>kd8.trans (by
    obtain ⟨hB0,src,n,hmm⟩:=d8.mkr
    exact h.keep2 hmm B8 (by decide) (by decide) hB0 (by omega))
   refine hK19 _ _ fun K22 hK22=>?_
   have go:K22 w8:=by
    refine hK22 _ ?_
    refine ⟨fun j w2=>0<=j/\j<=m3/\∃ (A':OA) (L' C':Nat),L'=j.toNat/\NSt 190 (fun S w=>Ptr (PFld S w)) mb nb w8 236 (fun A' L' C'=>[.string x.kind,.string x.doc,.string x.name,.slice A0 L0 C0,.slice A1 m2 C1,.slice A' L' C',.slice A2 m4 C2,.slice none 0 0,.pointer q0,.slice none 0 0,.bool false,.pointer none,.pointer none,.pointer none]) A' L' C' (x.fields.take j.toNat) w2,
     fun j _=>((m3:Int)-j).toNat,⟨by omega,by omega,none,0,0,rfl,Ext.refl _,d8.mkr,B8,by simpa using Bld.nil⟩,?_⟩
    rintro j w2 ⟨j0,hj,A,_,C,rfl,hst2⟩
    have hz2:=hst2.ext.size
    have hk2:=kn hst2.ext
    refine ⟨fun hlt=>?_,fun hge=>?_⟩
    ·have hlt:=odt hlt
     obtain ⟨pf,y,hpf,hys,cs,hd,b6,m6,n6,b8,m8,n8,ty,b7,m7,n7,nn,b9,m9,n9,rfl,hw1,hw2,hw3,hw4⟩:=(hv3.keep hk2).get j0 hlt
     obtain ⟨⟨_,_,hd0⟩,hds0,⟨_,_,hd1⟩,hds1,⟨_,_,hd2⟩,hds2,⟨_,_,hd3⟩,hds3,⟨_,_,hd4⟩,hds4,⟨_,_,hd5⟩,hds5,⟨_,_,hd6⟩,hds6,⟨_,_,hd7⟩,hds7,-⟩:=hd
     obtain ⟨okf1,okf2,okf3,okf4⟩:=okf y (List.mem_of_getElem? hys)
     refine ⟨pf,hpf,⟨j0,hlt⟩,_,hd0.cell,_,hd1.cell,_,_,_,hd2.cell,_,_,_,hd3.cell,_,hd4.cell,_,_,_,hd5.cell,_,hd6.cell,_,_,_,hd7.cell,trivial,trivial,fun w2a e2=>?_⟩
     have hx2:EF w2 w2a:=by rw [e2];exact ((Ext.refl w2).alloc _).drew
     clear e2
     have d2a:Made mb w2 w2a:=⟨hx2.toM _,hst2.mkr.ext hx2 id⟩
     have B2a:=d2a.blk hst2.blk hne
     refine ⟨adr nb,rfl,A,j.toNat,C,(B2a.at (j:=5) rfl).cell,?_⟩
     refine (b_0 (hw1.keep (d2a.keep hst2.mkr)) okf4 d2a.mkr).mono ?_
     rintro _ w3a ⟨A3,L3,C3,rfl,e3a,f3a⟩
     have B3a:=e3a.blk B2a hne
     refine ⟨_,_,_,rfl,⟨e3a.keepT d2a.mkr _ (by decide),e3a.keepT d2a.mkr _ (by decide),trivial⟩,by simp [show w3a.cell? ((adr nb).add 5)=w2a.cell? ((adr nb).add 5) from ((B3a.at (j:=5) rfl).cell).trans ((B2a.at (j:=5) rfl).cell).symm],?_⟩
     have d3a:=d2a.trans e3a
     have z3a:=d2a.ext.size
     refine (b_z (hw2.keep (d3a.keep hst2.mkr)) okf2 d3a.mkr).mono ?_
     rintro _ w4a ⟨q4,rfl,e4a,f4a⟩
     have B4a:=e4a.blk B3a hne
     refine ⟨_,rfl,⟨e4a.keepT d3a.mkr _ (by decide),e4a.keepT d3a.mkr _ (by decide),trivial⟩,by simp [show w4a.cell? ((adr nb).add 5)=w3a.cell? ((adr nb).add 5) from ((B4a.at (j:=5) rfl).cell).trans ((B3a.at (j:=5) rfl).cell).symm],?_⟩
     have d4a:=d3a.trans e4a
     have z4a:=d3a.ext.size
     refine (b_m y.t ty b7 m7 n7 nn w4a mb (hw3.keep (d4a.keep hst2.mkr)) okf1 d4a.mkr).mono ?_
     rintro _ w5a ⟨tb,rfl,e5a,f5a⟩
     have B5a:=e5a.blk B4a hne
     refine ⟨_,rfl,⟨e5a.keepT d4a.mkr _ (by decide),e5a.keepT d4a.mkr _ (by decide),trivial⟩,by simp [show w5a.cell? ((adr nb).add 5)=w4a.cell? ((adr nb).add 5) from ((B5a.at (j:=5) rfl).cell).trans ((B4a.at (j:=5) rfl).cell).symm],?_⟩
     have d5a:=d4a.trans e5a
     have z5a:=d4a.ext.size
     refine (a_k (hw4.keep (d5a.keep hst2.mkr)) okf3 d5a.mkr).mono ?_
     rintro _ w7a ⟨A6,L6,C6,rfl,e7a,f7a⟩
     have B7a:=e7a.blk B5a hne
     refine ⟨_,_,_,rfl,⟨e7a.keepT d5a.mkr _ (by decide),e7a.keepT d5a.mkr _ (by decide),trivial⟩,by simp [show w7a.cell? ((adr nb).add 5)=w5a.cell? ((adr nb).add 5) from ((B7a.at (j:=5) rfl).cell).trans ((B5a.at (j:=5) rfl).cell).symm],?_⟩
     have d7a:=d5a.trans e7a
     have z7a:=d5a.ext.size
     refine (a_c d7a.mkr).mono ?_
     rintro _ w6a ⟨q6,rfl,e6a⟩
     have B6a:=e6a.blk B7a hne
     refine ⟨q6,rfl,⟨e6a.keepT d7a.mkr _ (by decide),e6a.keepT d7a.mkr _ (by decide),trivial⟩,by simp [show w6a.cell? ((adr nb).add 5)=w7a.cell? ((adr nb).add 5) from ((B6a.at (j:=5) rfl).cell).trans ((B7a.at (j:=5) rfl).cell).symm],?_⟩
     have d6a:=d7a.trans e6a
     have z6a:=d7a.ext.size
     refine ⟨trivial,trivial,?_⟩
     have hB:=Blk.made w6a 198 [.string y.doc,.string y.name,.slice A3 L3 C3,.pointer q4,.pointer (some (adr tb)),.slice A6 L6 C6,.pointer q6,.pointer none,.pointer none]
     have hxN:EF w6a (w6a.alloc (.cells #[.string y.doc,.string y.name,.slice A3 L3 C3,.pointer q4,.pointer (some (adr tb)),.slice A6 L6 C6,.pointer q6,.pointer none,.pointer none] 198)):=(Ext.refl _).alloc _
     have zN:=d6a.ext.size
     generalize hcb:w6a.heap.size=cb at hB zN ⊢
     generalize (w6a.alloc (.cells #[.string y.doc,.string y.name,.slice A3 L3 C3,.pointer q4,.pointer (some (adr tb)),.slice A6 L6 C6,.pointer q6,.pointer none,.pointer none] 198))=wN at hB hxN ⊢
     have dN:=d6a.then hxN
     have BN:=B6a.ext hxN id
     have g3a:Made mb w3a wN:=((((e4a).trans e5a).trans e7a).trans e6a).then hxN
     have u3a:Keeps (New w2a) (New w2) w3a wN:=g3a.up z3a (by omega)
     have g4a:Made mb w4a wN:=(((e5a).trans e7a).trans e6a).then hxN
     have u4a:Keeps (New w3a) (New w2) w4a wN:=g4a.up z4a (by omega)
     have g5a:Made mb w5a wN:=((e7a).trans e6a).then hxN
     have u5a:Keeps (New w4a) (New w2) w5a wN:=g5a.up z5a (by omega)
     have g7a:Made mb w7a wN:=(e6a).then hxN
     have u7a:Keeps (New w5a) (New w2) w7a wN:=g7a.up z7a (by omega)
     obtain ⟨A',C',w',r,k',B',st'⟩:=hst2.push (T:=190) (j:=5) h_1 231 Tryz.t190 _ _ (by kernel_rfl) (by kernel_rfl) rfl (by kernel_rfl) rfl (by kernel_rfl) (by decide) hmb hnb hne (fun _ _ _ _ _ _=>rfl) dN (x:=y) (v:=.pointer (some (adr cb))) rfl (a_G rfl)
      ⟨cb,rfl,A3,L3,C3,q4,tb,A6,L6,C6,q6,by show w2.heap.size<=cb;omega,hB,a_1.keep u3a f3a,f4a.keep u4a,f5a.keep u5a,PDirs.keep u7a f7a⟩ (by omega) 231 #[false,false]
     have hxE:EF wN (wN.alloc (.cells #[.pointer (some (adr cb))] 190)):=(Ext.refl wN).alloc _
     refine ⟨⟨((BN.at (j:=5) rfl).cell).trans ((B6a.at (j:=5) rfl).cell).symm,trivial⟩,trivial,⟨(((BN.ext hxE id).at (j:=5) rfl).cell).trans ((BN.at (j:=5) rfl).cell).symm,trivial⟩,A',j.toNat+1,C',w',r,⟨k' _ (by decide),k' _ (by decide),trivial⟩,trivial,
      adr nb,rfl,B'.off (j:=5) (n:=1) (by simp) (q:=fun T=>(Nat.beq 75 T||(Nat.beq 87 T||false))) rfl,trivial,trivial,?_⟩
     rw [a_a j0 (by omega)]
     refine next j0 hlt ⟨A',j.toNat+1,C',by omega,?_⟩
     rw [show (j+1).toNat=j.toNat+1 by omega,List.take_succ,hys]
     exact st'
    ·have hle:=odf hge
     rw [List.take_of_length_le (by omega)] at hst2
     have hflds:=hst2.bld.done h_1 (by omega)
     have X1:=hst2.ext
     have hB1:=hst2.blk
     have hmkw:=hst2.mkr
     clear hge hst2 hk2
     obtain ⟨w9,hw9⟩:∃ w9,w9=w2:=⟨w2,rfl⟩
     subst hw9
     have hnb9:nb<w9.heap.size:=by omega
     have hmb9:mb<w9.heap.size:=by omega
     have hmb:=hmb9
     have hnb:=hnb9
     generalize hL:j.toNat=L9 at *
     clear j0 hj hL hle
     refine ⟨fun j w2=>0<=j/\j<=m5/\∃ (A':OA) (L' C':Nat),L'=j.toNat/\NSt 334 (fun S w=>Ptr (PEnum S w)) mb nb w9 236 (fun A' L' C'=>[.string x.kind,.string x.doc,.string x.name,.slice A0 L0 C0,.slice A1 m2 C1,.slice A L9 C,.slice A2 m4 C2,.slice A' L' C',.pointer q0,.slice none 0 0,.bool false,.pointer none,.pointer none,.pointer none]) A' L' C' (x.enums.take j.toNat) w2,
      fun j _=>((m5:Int)-j).toNat,⟨by omega,by omega,none,0,0,rfl,Ext.refl _,hmkw,hB1,by simpa using Bld.nil⟩,?_⟩
     rintro j w2 ⟨j0,hj,A5,_,C5,rfl,hst2⟩
     have hz3:=hst2.ext.size
     have XX:=X1.trans hst2.ext fun _ _ h=>h
     have hk2:=kn XX
     refine ⟨fun hlt=>?_,fun hge=>?_⟩
     ·have hlt:=odt hlt
      obtain ⟨pf,y,hpf,hys,cs,hd,b9,m9,n9,rfl,hw4⟩:=(hv5.keep hk2).get j0 hlt
      obtain ⟨⟨_,_,hd0⟩,hds0,⟨_,_,hd1⟩,hds1,⟨_,_,hd2⟩,hds2,-⟩:=hd
      have oke1:=oke y (List.mem_of_getElem? hys)
      refine ⟨pf,hpf,⟨j0,hlt⟩,_,hd0.cell,_,hd1.cell,_,_,_,hd2.cell,trivial,trivial,fun w2a e2=>?_⟩
      have hx2:EF w2 w2a:=by rw [e2];exact ((Ext.refl w2).alloc _).drew
      clear e2
      have d2a:Made mb w2 w2a:=⟨hx2.toM _,hst2.mkr.ext hx2 id⟩
      have B2a:=d2a.blk hst2.blk hne
      refine ⟨adr nb,rfl,A5,j.toNat,C5,(B2a.at (j:=7) rfl).cell,?_⟩
      refine (a_k (hw4.keep (d2a.keep hst2.mkr)) oke1 d2a.mkr).mono ?_
      rintro _ w7a ⟨A6,L6,C6,rfl,e7a,f7a⟩
      have B7a:=e7a.blk B2a hne
      refine ⟨_,_,_,rfl,⟨e7a.keepT d2a.mkr _ (by decide),e7a.keepT d2a.mkr _ (by decide),trivial⟩,by simp [show w7a.cell? ((adr nb).add 7)=w2a.cell? ((adr nb).add 7) from ((B7a.at (j:=7) rfl).cell).trans ((B2a.at (j:=7) rfl).cell).symm],?_⟩
      have d7a:=d2a.trans e7a
      have z7a:=d2a.ext.size
      refine (a_c d7a.mkr).mono ?_
      rintro _ w6a ⟨q6,rfl,e6a⟩
      have B6a:=e6a.blk B7a hne
      refine ⟨q6,rfl,⟨e6a.keepT d7a.mkr _ (by decide),e6a.keepT d7a.mkr _ (by decide),trivial⟩,by simp [show w6a.cell? ((adr nb).add 7)=w7a.cell? ((adr nb).add 7) from ((B6a.at (j:=7) rfl).cell).trans ((B7a.at (j:=7) rfl).cell).symm],?_⟩
      have d6a:=d7a.trans e6a
      have z6a:=d7a.ext.size
      refine ⟨trivial,trivial,?_⟩
      have hB:=Blk.made w6a 336 [.string y.doc,.string y.name,.slice A6 L6 C6,.pointer q6,.pointer none,.pointer none]
      have hxN:EF w6a (w6a.alloc (.cells #[.string y.doc,.string y.name,.slice A6 L6 C6,.pointer q6,.pointer none,.pointer none] 336)):=(Ext.refl _).alloc _
      have zN:=d6a.ext.size
      generalize hcb:w6a.heap.size=cb at hB zN ⊢
      generalize (w6a.alloc (.cells #[.string y.doc,.string y.name,.slice A6 L6 C6,.pointer q6,.pointer none,.pointer none] 336))=wN at hB hxN ⊢
      have dN:=d6a.then hxN
      have BN:=B6a.ext hxN id
      have g7a:Made mb w7a wN:=(e6a).then hxN
      have u7a:Keeps (New w2a) (New w2) w7a wN:=g7a.up z7a (by omega)
      obtain ⟨A',C',w',r,k',B',st'⟩:=hst2.push (T:=334) (j:=7) g_P 233 Tryz.t334 _ _ (by kernel_rfl) (by kernel_rfl) rfl (by kernel_rfl) rfl (by kernel_rfl) (by decide) hmb hnb hne (fun _ _ _ _ _ _=>rfl) dN (x:=y) (v:=.pointer (some (adr cb))) rfl (a_G rfl)
       ⟨cb,rfl,A6,L6,C6,q6,by show w2.heap.size<=cb;omega,hB,PDirs.keep u7a f7a⟩ (by omega) 233 #[false,false]
      have hxE:EF wN (wN.alloc (.cells #[.pointer (some (adr cb))] 334)):=(Ext.refl wN).alloc _
      refine ⟨⟨((BN.at (j:=7) rfl).cell).trans ((B6a.at (j:=7) rfl).cell).symm,trivial⟩,trivial,⟨(((BN.ext hxE id).at (j:=7) rfl).cell).trans ((BN.at (j:=7) rfl).cell).symm,trivial⟩,A',j.toNat+1,C',w',r,⟨k' _ (by decide),k' _ (by decide),trivial⟩,trivial,
       adr nb,rfl,B'.off (j:=7) (n:=1) (by simp) (q:=fun T=>(Nat.beq 75 T||(Nat.beq 260 T||false))) rfl,trivial,trivial,?_⟩
      rw [a_a j0 (by omega)]
      refine next j0 hlt ⟨A',j.toNat+1,C',by omega,?_⟩
      rw [show (j+1).toNat=j.toNat+1 by omega,List.take_succ,hys]
      exact st'
     ·have hle:=odf hge
      rw [List.take_of_length_le (by omega)] at hst2
      have henu:=hst2.bld.done g_P (by omega)
      have kf:Keeps (fun b=>w8.heap.size<=b) (New w1) w9 w2:=hst2.ext.keeps (fun b hb _=>by
       have:w8.heap.size<=b:=hb
       show w1.heap.size<=b
       omega) fun b hb _ e=>by
       have:w8.heap.size<=b:=hb
       rcases e with e|e<;>omega
      have ke:Keeps (fun b=>w9.heap.size<=b) (New w1) w2 w2:=Keeps.all w2 fun b hb _=>by
       have:w9.heap.size<=b:=hb
       show w1.heap.size<=b
       omega
      have k8:Keeps (fun b=>w1.heap.size<=b/\b<nb) (New w1) w8 w2:=XX.keeps (fun b hb _=>hb.1) fun b hb _ e=>by
       have:=hb.1
       have:=hb.2
       rcases e with e|e<;>omega
      have dN:Made mb w1 w2:=⟨d8.ext.trans XX fun b hb e=>by
       rcases e with e|e
       ·exact e
       ·omega,hst2.mkr⟩
      obtain ⟨A',C',w',r,st',k'⟩:=hst.push (T:=159) h_Z 275 Tryz.t159 _ _ (by kernel_rfl) (by kernel_rfl) rfl (by kernel_rfl) rfl (by kernel_rfl) (by decide) hmlt dN (x:=x) (v:=.pointer (some (adr nb))) rfl (a_G rfl)
       ⟨nb,rfl,A0,L0,C0,A1,m2,C1,A,L9,C,A2,m4,C2,A5,j.toNat,C5,q0,hzp,hst2.blk,PDirs.keep k8 hd8,PStrs.keep k8 hp18,PSl.keep kf hflds fun _ _ _=>Ptr.keep fun _ _=>PFld.keep kf,PStrs.keep k8 hp28,PSl.keep ke henu fun _ _ _=>Ptr.keep fun _ _=>PEnum.keep ke⟩ (by omega) 275 #[false,false]
      refine ⟨trivial,A',i.toNat+1,C',w',r,⟨k' _ (by decide),trivial⟩,?_⟩
      rw [a_a h0 (by omega)]
      refine next h0 hlt' ⟨by omega,?_⟩
      rw [show (i+1).toNat=i.toNat+1 by omega,List.take_succ,hxs]
      exact st'
   refine ⟨adr nb,rfl,_,(B8.at (j:=0) rfl).cell,fun K93 hK93=>?_⟩
   have key:∀ b,b=true->K93 b w8:=fun b hb=>hK93 b w8 ⟨fun _=>go,fun h=>by rw [hb] at h;cases h⟩
   refine ⟨fun _=>key _ rfl,fun h1=>⟨fun _=>key _ rfl,fun h2=>⟨fun _=>key _ rfl,fun h3=>⟨fun _=>key _ rfl,fun h4=>⟨fun _=>key _ rfl,fun h5=>key _ ?_⟩⟩⟩⟩⟩
   rw [c_A] at h1 h2 h3 h4 h5 ⊢
   simp only [decide_eq_false_iff_not] at h1 h2 h3 h4 h5
   simp only [e_1] at okk
   simp only [decide_eq_true_eq]
   simp_all
  intro w2 e2
  have hx2:EF w1 w2:=by rw [e2];exact ((Ext.refl w1).alloc _).drew
  clear e2
  have d2:Made mb w1 w2:=⟨hx2.toM _,hmk1.ext hx2 id⟩
  have z2:=hx2.size
  refine ⟨?_,?_,?_⟩
  ·refine (a_k (hv1.keep (d2.keep hmk1)) okd d2.mkr).mono ?_
   rintro _ v1 ⟨A0,L0,C0,rfl,e1,f1⟩
   have z1:=e1.ext.size
   refine ⟨_,_,_,rfl,⟨e1.keepT d2.mkr _ (by decide),trivial⟩,by simp,?_⟩
   have g1:PDirs (fun b=>w2.heap.size<=b/\b<v1.heap.size) v1 A0 L0 C0 x.dirs:=PDirs.keep (Keeps.all v1 fun b hb hl=>⟨hb,hl⟩) f1
   have d1:=d2.trans e1
   refine ⟨?_,?_⟩
   ·have o2:=Own.made w1.heap.size v1 9 1 0 #[] (d1.ext.size) (by simp) (by simp)
    have x2:EF v1 (v1.alloc (.cells #[] 9)):=(Ext.refl _).alloc _
    have z2:(v1.alloc (.cells #[] 9)).heap.size=v1.heap.size+1:=by simp
    refine ⟨by simp,?_⟩
    generalize (v1.alloc (.cells #[] 9))=v2 at o2 x2 z2 ⊢
    have k2D:PDirs (fun b=>w2.heap.size<=b/\b<v1.heap.size) _ A0 L0 C0 x.dirs:=PDirs.keep (Ext.keeps x2 (fun b hb _=>hb) (fun b hb _=>id)) g1
    have d2:=d1.then x2
    refine ⟨?_,?_⟩
    ·obtain ⟨A1,CA1,v3,r3,⟨cells3,p3,q3⟩,x3,n3⟩:=a_i o2 d2.ext.size .nil (hv2.keep (d2.keep hmk1)) (by omega)
     rw [Nat.zero_add] at r3 p3
     have z3:=x3.size
     have y3:∀ b,blkOf A1 b->(b=v1.heap.size∨b=v2.heap.size)/\b<v3.heap.size:=fun b hb=>⟨(n3 b hb).imp (fun h=>a_j h) id,(p3.base b hb).2⟩
     refine ⟨A1,m2,CA1,v3,r3,⟨o2.keepT x3 (by decide),trivial⟩,by simp,?_⟩
     have d3:Made mb w1 v3:=⟨d2.ext.trans x3 fun b hb hbl=>(a_q o2 (.inl hb) hbl).elim,d2.mkr.ext x3 (a_q o2 (.inl hmb1))⟩
     have k3D:PDirs (fun b=>w2.heap.size<=b/\b<v1.heap.size) _ A0 L0 C0 x.dirs:=PDirs.keep (Ext.keeps x3 (fun b hb _=>hb) (fun b hb _ hbl=>by have h1:=hb.1;have h3:=hb.2;have h2:=a_j hbl;omega)) k2D
     have o4:=Own.made w1.heap.size v3 9 1 0 #[] (d3.ext.size) (by simp) (by simp)
     have x4:EF v3 (v3.alloc (.cells #[] 9)):=(Ext.refl _).alloc _
     have z4:(v3.alloc (.cells #[] 9)).heap.size=v3.heap.size+1:=by simp
     refine ⟨by simp,?_⟩
     generalize (v3.alloc (.cells #[] 9))=v4 at o4 x4 z4 ⊢
     have k4A1:=p3.keep x4 (fun _ _=>id)
     have k4D:PDirs (fun b=>w2.heap.size<=b/\b<v1.heap.size) _ A0 L0 C0 x.dirs:=PDirs.keep (Ext.keeps x4 (fun b hb _=>hb) (fun b hb _=>id)) k3D
     have d4:=d3.then x4
     obtain ⟨A2,CA2,v5,r5,⟨cells5,p5,q5⟩,x5,n5⟩:=a_i o4 d4.ext.size .nil (hv4.keep (d4.keep hmk1)) (by omega)
     rw [Nat.zero_add] at r5 p5
     have z5:=x5.size
     have y5:∀ b,blkOf A2 b->(b=v3.heap.size∨b=v4.heap.size)/\b<v5.heap.size:=fun b hb=>⟨(n5 b hb).imp (fun h=>a_j h) id,(p5.base b hb).2⟩
     refine ⟨A2,m4,CA2,v5,r5,⟨o4.keepT x5 (by decide),trivial⟩,by simp,?_⟩
     have d5:Made mb w1 v5:=⟨d4.ext.trans x5 fun b hb hbl=>(a_q o4 (.inl hb) hbl).elim,d4.mkr.ext x5 (a_q o4 (.inl hmb1))⟩
     have k5A1:=k4A1.keep x5 (fun b hb hbl=>by have h1:=y3 b hb;have h2:=a_j hbl;omega)
     have k5D:PDirs (fun b=>w2.heap.size<=b/\b<v1.heap.size) _ A0 L0 C0 x.dirs:=PDirs.keep (Ext.keeps x5 (fun b hb _=>hb) (fun b hb _ hbl=>by have h1:=hb.1;have h3:=hb.2;have h2:=a_j hbl;omega)) k4D
     refine (a_c d5.mkr).mono ?_
     rintro _ v6 ⟨q0,rfl,e6⟩
     have z6:=e6.ext.size
     have k6A1:=k5A1.keep e6.ext (fun b hb e=>by have h1:=(k5A1.base b hb).1;have h2:b=mb:=e;omega)
     have k6A2:=p5.keep e6.ext (fun b hb e=>by have h1:=(p5.base b hb).1;have h2:b=mb:=e;omega)
     have k6D:PDirs (fun b=>w2.heap.size<=b/\b<v1.heap.size) _ A0 L0 C0 x.dirs:=PDirs.keep (Ext.keeps e6.ext (fun b hb _=>hb) (fun b hb _ e=>by have h1:=hb.1;have h2:b=mb:=e;omega)) k5D
     have d6:=d5.trans e6
     exact ⟨_,rfl,⟨e6.keepT d5.mkr _ (by decide),trivial⟩,by simp,trivial,trivial,trivial,trivial,key19 A0 L0 C0 A1 CA1 A2 CA2 q0 v6 d6 (PDirs.keep (Keeps.all v6 fun b hb hl=>by have:=hb.1;have:=hb.2;show w1.heap.size<=b;omega) k6D) ⟨_,k6A1,q3⟩ ⟨_,k6A2,q5⟩⟩
    ·have o7:=Own.made w1.heap.size v2 9 1 0 #[] (d2.ext.size) (by simp) (by simp)
     have x7:EF v2 (v2.alloc (.cells #[] 9)):=(Ext.refl _).alloc _
     have z7:(v2.alloc (.cells #[] 9)).heap.size=v2.heap.size+1:=by simp
     refine ⟨by simp,?_⟩
     generalize (v2.alloc (.cells #[] 9))=v7 at o7 x7 z7 ⊢
     have k7e1:=o2.keep x7 (fun _ _=>id)
     have k7D:PDirs (fun b=>w2.heap.size<=b/\b<v1.heap.size) _ A0 L0 C0 x.dirs:=PDirs.keep (Ext.keeps x7 (fun b hb _=>hb) (fun b hb _=>id)) k2D
     have d7:=d2.then x7
     obtain ⟨A1,CA1,v8,r8,⟨cells8,p8,q8⟩,x8,n8⟩:=a_i k7e1 d7.ext.size .nil (hv2.keep (d7.keep hmk1)) (by omega)
     rw [Nat.zero_add] at r8 p8
     have z8:=x8.size
     have y8:∀ b,blkOf A1 b->(b=v1.heap.size∨b=v7.heap.size)/\b<v8.heap.size:=fun b hb=>⟨(n8 b hb).imp (fun h=>a_j h) id,(p8.base b hb).2⟩
     refine ⟨A1,m2,CA1,v8,r8,⟨k7e1.keepT x8 (by decide),trivial⟩,by simp,?_⟩
     have d8:Made mb w1 v8:=⟨d7.ext.trans x8 fun b hb hbl=>(a_q k7e1 (.inl hb) hbl).elim,d7.mkr.ext x8 (a_q k7e1 (.inl hmb1))⟩
     have k8e2:=o7.keep x8 (fun b hb hbl=>by have h1:=a_j hb;have h2:=a_j hbl;omega)
     have k8D:PDirs (fun b=>w2.heap.size<=b/\b<v1.heap.size) _ A0 L0 C0 x.dirs:=PDirs.keep (Ext.keeps x8 (fun b hb _=>hb) (fun b hb _ hbl=>by have h1:=hb.1;have h3:=hb.2;have h2:=a_j hbl;omega)) k7D
     obtain ⟨A2,CA2,v9,r9,⟨cells9,p9,q9⟩,x9,n9⟩:=a_i k8e2 d8.ext.size .nil (hv4.keep (d8.keep hmk1)) (by omega)
     rw [Nat.zero_add] at r9 p9
     have z9:=x9.size
     have y9:∀ b,blkOf A2 b->(b=v2.heap.size∨b=v8.heap.size)/\b<v9.heap.size:=fun b hb=>⟨(n9 b hb).imp (fun h=>a_j h) id,(p9.base b hb).2⟩
     refine ⟨A2,m4,CA2,v9,r9,⟨k8e2.keepT x9 (by decide),trivial⟩,by simp,?_⟩
     have d9:Made mb w1 v9:=⟨d8.ext.trans x9 fun b hb hbl=>(a_q k8e2 (.inl hb) hbl).elim,d8.mkr.ext x9 (a_q k8e2 (.inl hmb1))⟩
     have k9A1:=p8.keep x9 (fun b hb hbl=>by have h1:=y8 b hb;have h2:=a_j hbl;omega)
     have k9D:PDirs (fun b=>w2.heap.size<=b/\b<v1.heap.size) _ A0 L0 C0 x.dirs:=PDirs.keep (Ext.keeps x9 (fun b hb _=>hb) (fun b hb _ hbl=>by have h1:=hb.1;have h3:=hb.2;have h2:=a_j hbl;omega)) k8D
     refine (a_c d9.mkr).mono ?_
     rintro _ v10 ⟨q0,rfl,e10⟩
     have z10:=e10.ext.size
     have k10A1:=k9A1.keep e10.ext (fun b hb e=>by have h1:=(k9A1.base b hb).1;have h2:b=mb:=e;omega)
     have k10A2:=p9.keep e10.ext (fun b hb e=>by have h1:=(p9.base b hb).1;have h2:b=mb:=e;omega)
     have k10D:PDirs (fun b=>w2.heap.size<=b/\b<v1.heap.size) _ A0 L0 C0 x.dirs:=PDirs.keep (Ext.keeps e10.ext (fun b hb _=>hb) (fun b hb _ e=>by have h1:=hb.1;have h2:b=mb:=e;omega)) k9D
     have d10:=d9.trans e10
     exact ⟨_,rfl,⟨e10.keepT d9.mkr _ (by decide),trivial⟩,by simp,trivial,trivial,trivial,trivial,key19 A0 L0 C0 A1 CA1 A2 CA2 q0 v10 d10 (PDirs.keep (Keeps.all v10 fun b hb hl=>by have:=hb.1;have:=hb.2;show w1.heap.size<=b;omega) k10D) ⟨_,k10A1,q8⟩ ⟨_,k10A2,q9⟩⟩
   ·have o11:=Own.made w1.heap.size v1 9 1 0 #[] (d1.ext.size) (by simp) (by simp)
    have x11:EF v1 (v1.alloc (.cells #[] 9)):=(Ext.refl _).alloc _
    have z11:(v1.alloc (.cells #[] 9)).heap.size=v1.heap.size+1:=by simp
    refine ⟨by simp,?_⟩
    generalize (v1.alloc (.cells #[] 9))=v11 at o11 x11 z11 ⊢
    have k11D:PDirs (fun b=>w2.heap.size<=b/\b<v1.heap.size) _ A0 L0 C0 x.dirs:=PDirs.keep (Ext.keeps x11 (fun b hb _=>hb) (fun b hb _=>id)) g1
    have d11:=d1.then x11
    have o12:=Own.made w1.heap.size v11 9 1 0 #[] (d11.ext.size) (by simp) (by simp)
    have x12:EF v11 (v11.alloc (.cells #[] 9)):=(Ext.refl _).alloc _
    have z12:(v11.alloc (.cells #[] 9)).heap.size=v11.heap.size+1:=by simp
    refine ⟨by simp,?_⟩
    generalize (v11.alloc (.cells #[] 9))=v12 at o12 x12 z12 ⊢
    have k12e2:=o11.keep x12 (fun _ _=>id)
    have k12D:PDirs (fun b=>w2.heap.size<=b/\b<v1.heap.size) _ A0 L0 C0 x.dirs:=PDirs.keep (Ext.keeps x12 (fun b hb _=>hb) (fun b hb _=>id)) k11D
    have d12:=d11.then x12
    obtain ⟨A1,CA1,v13,r13,⟨cells13,p13,q13⟩,x13,n13⟩:=a_i o12 d12.ext.size .nil (hv2.keep (d12.keep hmk1)) (by omega)
    rw [Nat.zero_add] at r13 p13
    have z13:=x13.size
    have y13:∀ b,blkOf A1 b->(b=v11.heap.size∨b=v12.heap.size)/\b<v13.heap.size:=fun b hb=>⟨(n13 b hb).imp (fun h=>a_j h) id,(p13.base b hb).2⟩
    refine ⟨A1,m2,CA1,v13,r13,⟨o12.keepT x13 (by decide),trivial⟩,by simp,?_⟩
    have d13:Made mb w1 v13:=⟨d12.ext.trans x13 fun b hb hbl=>(a_q o12 (.inl hb) hbl).elim,d12.mkr.ext x13 (a_q o12 (.inl hmb1))⟩
    have k13e2:=k12e2.keep x13 (fun b hb hbl=>by have h1:=a_j hb;have h2:=a_j hbl;omega)
    have k13D:PDirs (fun b=>w2.heap.size<=b/\b<v1.heap.size) _ A0 L0 C0 x.dirs:=PDirs.keep (Ext.keeps x13 (fun b hb _=>hb) (fun b hb _ hbl=>by have h1:=hb.1;have h3:=hb.2;have h2:=a_j hbl;omega)) k12D
    obtain ⟨A2,CA2,v14,r14,⟨cells14,p14,q14⟩,x14,n14⟩:=a_i k13e2 d13.ext.size .nil (hv4.keep (d13.keep hmk1)) (by omega)
    rw [Nat.zero_add] at r14 p14
    have z14:=x14.size
    have y14:∀ b,blkOf A2 b->(b=v1.heap.size∨b=v13.heap.size)/\b<v14.heap.size:=fun b hb=>⟨(n14 b hb).imp (fun h=>a_j h) id,(p14.base b hb).2⟩
    refine ⟨A2,m4,CA2,v14,r14,⟨k13e2.keepT x14 (by decide),trivial⟩,by simp,?_⟩
    have d14:Made mb w1 v14:=⟨d13.ext.trans x14 fun b hb hbl=>(a_q k13e2 (.inl hb) hbl).elim,d13.mkr.ext x14 (a_q k13e2 (.inl hmb1))⟩
    have k14A1:=p13.keep x14 (fun b hb hbl=>by have h1:=y13 b hb;have h2:=a_j hbl;omega)
    have k14D:PDirs (fun b=>w2.heap.size<=b/\b<v1.heap.size) _ A0 L0 C0 x.dirs:=PDirs.keep (Ext.keeps x14 (fun b hb _=>hb) (fun b hb _ hbl=>by have h1:=hb.1;have h3:=hb.2;have h2:=a_j hbl;omega)) k13D
    refine (a_c d14.mkr).mono ?_
    rintro _ v15 ⟨q0,rfl,e15⟩
    have z15:=e15.ext.size
    have k15A1:=k14A1.keep e15.ext (fun b hb e=>by have h1:=(k14A1.base b hb).1;have h2:b=mb:=e;omega)
    have k15A2:=p14.keep e15.ext (fun b hb e=>by have h1:=(p14.base b hb).1;have h2:b=mb:=e;omega)
    have k15D:PDirs (fun b=>w2.heap.size<=b/\b<v1.heap.size) _ A0 L0 C0 x.dirs:=PDirs.keep (Ext.keeps e15.ext (fun b hb _=>hb) (fun b hb _ e=>by have h1:=hb.1;have h2:b=mb:=e;omega)) k14D
    have d15:=d14.trans e15
    exact ⟨_,rfl,⟨e15.keepT d14.mkr _ (by decide),trivial⟩,by simp,trivial,trivial,trivial,trivial,key19 A0 L0 C0 A1 CA1 A2 CA2 q0 v15 d15 (PDirs.keep (Keeps.all v15 fun b hb hl=>by have:=hb.1;have:=hb.2;show w1.heap.size<=b;omega) k15D) ⟨_,k15A1,q13⟩ ⟨_,k15A2,q14⟩⟩
  ·have o16:=Own.made w1.heap.size w2 9 1 0 #[] (d2.ext.size) (by simp) (by simp)
   have x16:EF w2 (w2.alloc (.cells #[] 9)):=(Ext.refl _).alloc _
   have z16:(w2.alloc (.cells #[] 9)).heap.size=w2.heap.size+1:=by simp
   refine ⟨by simp,?_⟩
   generalize (w2.alloc (.cells #[] 9))=v16 at o16 x16 z16 ⊢
   have d16:=d2.then x16
   refine ⟨?_,?_⟩
   ·refine (a_k (hv1.keep (d16.keep hmk1)) okd d16.mkr).mono ?_
    rintro _ v17 ⟨A0,L0,C0,rfl,e17,f17⟩
    have z17:=e17.ext.size
    refine ⟨_,_,_,rfl,⟨e17.keepT d16.mkr _ (by decide),trivial⟩,by simp,?_⟩
    have k17e1:=o16.keep e17.ext (fun b hb e=>by have h1:=(o16.base b hb).1;have h2:b=mb:=e;omega)
    have g17:PDirs (fun b=>v16.heap.size<=b/\b<v17.heap.size) v17 A0 L0 C0 x.dirs:=PDirs.keep (Keeps.all v17 fun b hb hl=>⟨hb,hl⟩) f17
    have d17:=d16.trans e17
    refine ⟨?_,?_⟩
    ·obtain ⟨A1,CA1,v18,r18,⟨cells18,p18,q18⟩,x18,n18⟩:=a_i k17e1 d17.ext.size .nil (hv2.keep (d17.keep hmk1)) (by omega)
     rw [Nat.zero_add] at r18 p18
     have z18:=x18.size
     have y18:∀ b,blkOf A1 b->(b=w2.heap.size∨b=v17.heap.size)/\b<v18.heap.size:=fun b hb=>⟨(n18 b hb).imp (fun h=>a_j h) id,(p18.base b hb).2⟩
     refine ⟨A1,m2,CA1,v18,r18,⟨k17e1.keepT x18 (by decide),trivial⟩,by simp,?_⟩
     have d18:Made mb w1 v18:=⟨d17.ext.trans x18 fun b hb hbl=>(a_q k17e1 (.inl hb) hbl).elim,d17.mkr.ext x18 (a_q k17e1 (.inl hmb1))⟩
     have k18D:PDirs (fun b=>v16.heap.size<=b/\b<v17.heap.size) _ A0 L0 C0 x.dirs:=PDirs.keep (Ext.keeps x18 (fun b hb _=>hb) (fun b hb _ hbl=>by have h1:=hb.1;have h3:=hb.2;have h2:=a_j hbl;omega)) g17
     have o19:=Own.made w1.heap.size v18 9 1 0 #[] (d18.ext.size) (by simp) (by simp)
     have x19:EF v18 (v18.alloc (.cells #[] 9)):=(Ext.refl _).alloc _
     have z19:(v18.alloc (.cells #[] 9)).heap.size=v18.heap.size+1:=by simp
     refine ⟨by simp,?_⟩
     generalize (v18.alloc (.cells #[] 9))=v19 at o19 x19 z19 ⊢
     have k19A1:=p18.keep x19 (fun _ _=>id)
     have k19D:PDirs (fun b=>v16.heap.size<=b/\b<v17.heap.size) _ A0 L0 C0 x.dirs:=PDirs.keep (Ext.keeps x19 (fun b hb _=>hb) (fun b hb _=>id)) k18D
     have d19:=d18.then x19
     obtain ⟨A2,CA2,v20,r20,⟨cells20,p20,q20⟩,x20,n20⟩:=a_i o19 d19.ext.size .nil (hv4.keep (d19.keep hmk1)) (by omega)
     rw [Nat.zero_add] at r20 p20
     have z20:=x20.size
     have y20:∀ b,blkOf A2 b->(b=v18.heap.size∨b=v19.heap.size)/\b<v20.heap.size:=fun b hb=>⟨(n20 b hb).imp (fun h=>a_j h) id,(p20.base b hb).2⟩
     refine ⟨A2,m4,CA2,v20,r20,⟨o19.keepT x20 (by decide),trivial⟩,by simp,?_⟩
     have d20:Made mb w1 v20:=⟨d19.ext.trans x20 fun b hb hbl=>(a_q o19 (.inl hb) hbl).elim,d19.mkr.ext x20 (a_q o19 (.inl hmb1))⟩
     have k20A1:=k19A1.keep x20 (fun b hb hbl=>by have h1:=y18 b hb;have h2:=a_j hbl;omega)
     have k20D:PDirs (fun b=>v16.heap.size<=b/\b<v17.heap.size) _ A0 L0 C0 x.dirs:=PDirs.keep (Ext.keeps x20 (fun b hb _=>hb) (fun b hb _ hbl=>by have h1:=hb.1;have h3:=hb.2;have h2:=a_j hbl;omega)) k19D
     refine (a_c d20.mkr).mono ?_
     rintro _ v21 ⟨q0,rfl,e21⟩
     have z21:=e21.ext.size
     have k21A1:=k20A1.keep e21.ext (fun b hb e=>by have h1:=(k20A1.base b hb).1;have h2:b=mb:=e;omega)
     have k21A2:=p20.keep e21.ext (fun b hb e=>by have h1:=(p20.base b hb).1;have h2:b=mb:=e;omega)
     have k21D:PDirs (fun b=>v16.heap.size<=b/\b<v17.heap.size) _ A0 L0 C0 x.dirs:=PDirs.keep (Ext.keeps e21.ext (fun b hb _=>hb) (fun b hb _ e=>by have h1:=hb.1;have h2:b=mb:=e;omega)) k20D
     have d21:=d20.trans e21
     exact ⟨_,rfl,⟨e21.keepT d20.mkr _ (by decide),trivial⟩,by simp,trivial,trivial,trivial,trivial,key19 A0 L0 C0 A1 CA1 A2 CA2 q0 v21 d21 (PDirs.keep (Keeps.all v21 fun b hb hl=>by have:=hb.1;have:=hb.2;show w1.heap.size<=b;omega) k21D) ⟨_,k21A1,q18⟩ ⟨_,k21A2,q20⟩⟩
    ·have o22:=Own.made w1.heap.size v17 9 1 0 #[] (d17.ext.size) (by simp) (by simp)
     have x22:EF v17 (v17.alloc (.cells #[] 9)):=(Ext.refl _).alloc _
     have z22:(v17.alloc (.cells #[] 9)).heap.size=v17.heap.size+1:=by simp
     refine ⟨by simp,?_⟩
     generalize (v17.alloc (.cells #[] 9))=v22 at o22 x22 z22 ⊢
     have k22e1:=k17e1.keep x22 (fun _ _=>id)
     have k22D:PDirs (fun b=>v16.heap.size<=b/\b<v17.heap.size) _ A0 L0 C0 x.dirs:=PDirs.keep (Ext.keeps x22 (fun b hb _=>hb) (fun b hb _=>id)) g17
     have d22:=d17.then x22
     obtain ⟨A1,CA1,v23,r23,⟨cells23,p23,q23⟩,x23,n23⟩:=a_i k22e1 d22.ext.size .nil (hv2.keep (d22.keep hmk1)) (by omega)
     rw [Nat.zero_add] at r23 p23
     have z23:=x23.size
     have y23:∀ b,blkOf A1 b->(b=w2.heap.size∨b=v22.heap.size)/\b<v23.heap.size:=fun b hb=>⟨(n23 b hb).imp (fun h=>a_j h) id,(p23.base b hb).2⟩
     refine ⟨A1,m2,CA1,v23,r23,⟨k22e1.keepT x23 (by decide),trivial⟩,by simp,?_⟩
     have d23:Made mb w1 v23:=⟨d22.ext.trans x23 fun b hb hbl=>(a_q k22e1 (.inl hb) hbl).elim,d22.mkr.ext x23 (a_q k22e1 (.inl hmb1))⟩
     have k23e2:=o22.keep x23 (fun b hb hbl=>by have h1:=a_j hb;have h2:=a_j hbl;omega)
     have k23D:PDirs (fun b=>v16.heap.size<=b/\b<v17.heap.size) _ A0 L0 C0 x.dirs:=PDirs.keep (Ext.keeps x23 (fun b hb _=>hb) (fun b hb _ hbl=>by have h1:=hb.1;have h3:=hb.2;have h2:=a_j hbl;omega)) k22D
     obtain ⟨A2,CA2,v24,r24,⟨cells24,p24,q24⟩,x24,n24⟩:=a_i k23e2 d23.ext.size .nil (hv4.keep (d23.keep hmk1)) (by omega)
     rw [Nat.zero_add] at r24 p24
     have z24:=x24.size
     have y24:∀ b,blkOf A2 b->(b=v17.heap.size∨b=v23.heap.size)/\b<v24.heap.size:=fun b hb=>⟨(n24 b hb).imp (fun h=>a_j h) id,(p24.base b hb).2⟩
     refine ⟨A2,m4,CA2,v24,r24,⟨k23e2.keepT x24 (by decide),trivial⟩,by simp,?_⟩
     have d24:Made mb w1 v24:=⟨d23.ext.trans x24 fun b hb hbl=>(a_q k23e2 (.inl hb) hbl).elim,d23.mkr.ext x24 (a_q k23e2 (.inl hmb1))⟩
     have k24A1:=p23.keep x24 (fun b hb hbl=>by have h1:=y23 b hb;have h2:=a_j hbl;omega)
     have k24D:PDirs (fun b=>v16.heap.size<=b/\b<v17.heap.size) _ A0 L0 C0 x.dirs:=PDirs.keep (Ext.keeps x24 (fun b hb _=>hb) (fun b hb _ hbl=>by have h1:=hb.1;have h3:=hb.2;have h2:=a_j hbl;omega)) k23D
     refine (a_c d24.mkr).mono ?_
     rintro _ v25 ⟨q0,rfl,e25⟩
     have z25:=e25.ext.size
     have k25A1:=k24A1.keep e25.ext (fun b hb e=>by have h1:=(k24A1.base b hb).1;have h2:b=mb:=e;omega)
     have k25A2:=p24.keep e25.ext (fun b hb e=>by have h1:=(p24.base b hb).1;have h2:b=mb:=e;omega)
     have k25D:PDirs (fun b=>v16.heap.size<=b/\b<v17.heap.size) _ A0 L0 C0 x.dirs:=PDirs.keep (Ext.keeps e25.ext (fun b hb _=>hb) (fun b hb _ e=>by have h1:=hb.1;have h2:b=mb:=e;omega)) k24D
     have d25:=d24.trans e25
     exact ⟨_,rfl,⟨e25.keepT d24.mkr _ (by decide),trivial⟩,by simp,trivial,trivial,trivial,trivial,key19 A0 L0 C0 A1 CA1 A2 CA2 q0 v25 d25 (PDirs.keep (Keeps.all v25 fun b hb hl=>by have:=hb.1;have:=hb.2;show w1.heap.size<=b;omega) k25D) ⟨_,k25A1,q23⟩ ⟨_,k25A2,q24⟩⟩
   ·have o26:=Own.made w1.heap.size v16 9 1 0 #[] (d16.ext.size) (by simp) (by simp)
    have x26:EF v16 (v16.alloc (.cells #[] 9)):=(Ext.refl _).alloc _
    have z26:(v16.alloc (.cells #[] 9)).heap.size=v16.heap.size+1:=by simp
    refine ⟨by simp,?_⟩
    generalize (v16.alloc (.cells #[] 9))=v26 at o26 x26 z26 ⊢
    have k26e1:=o16.keep x26 (fun _ _=>id)
    have d26:=d16.then x26
    refine (a_k (hv1.keep (d26.keep hmk1)) okd d26.mkr).mono ?_
    rintro _ v27 ⟨A0,L0,C0,rfl,e27,f27⟩
    have z27:=e27.ext.size
    refine ⟨_,_,_,rfl,⟨e27.keepT d26.mkr _ (by decide),trivial⟩,by simp,?_⟩
    have k27e1:=k26e1.keep e27.ext (fun b hb e=>by have h1:=(k26e1.base b hb).1;have h2:b=mb:=e;omega)
    have k27e2:=o26.keep e27.ext (fun b hb e=>by have h1:=(o26.base b hb).1;have h2:b=mb:=e;omega)
    have g27:PDirs (fun b=>v26.heap.size<=b/\b<v27.heap.size) v27 A0 L0 C0 x.dirs:=PDirs.keep (Keeps.all v27 fun b hb hl=>⟨hb,hl⟩) f27
    have d27:=d26.trans e27
    obtain ⟨A1,CA1,v28,r28,⟨cells28,p28,q28⟩,x28,n28⟩:=a_i k27e1 d27.ext.size .nil (hv2.keep (d27.keep hmk1)) (by omega)
    rw [Nat.zero_add] at r28 p28
    have z28:=x28.size
    have y28:∀ b,blkOf A1 b->(b=w2.heap.size∨b=v27.heap.size)/\b<v28.heap.size:=fun b hb=>⟨(n28 b hb).imp (fun h=>a_j h) id,(p28.base b hb).2⟩
    refine ⟨A1,m2,CA1,v28,r28,⟨k27e1.keepT x28 (by decide),trivial⟩,by simp,?_⟩
    have d28:Made mb w1 v28:=⟨d27.ext.trans x28 fun b hb hbl=>(a_q k27e1 (.inl hb) hbl).elim,d27.mkr.ext x28 (a_q k27e1 (.inl hmb1))⟩
    have k28e2:=k27e2.keep x28 (fun b hb hbl=>by have h1:=a_j hb;have h2:=a_j hbl;omega)
    have k28D:PDirs (fun b=>v26.heap.size<=b/\b<v27.heap.size) _ A0 L0 C0 x.dirs:=PDirs.keep (Ext.keeps x28 (fun b hb _=>hb) (fun b hb _ hbl=>by have h1:=hb.1;have h3:=hb.2;have h2:=a_j hbl;omega)) g27
    obtain ⟨A2,CA2,v29,r29,⟨cells29,p29,q29⟩,x29,n29⟩:=a_i k28e2 d28.ext.size .nil (hv4.keep (d28.keep hmk1)) (by omega)
    rw [Nat.zero_add] at r29 p29
    have z29:=x29.size
    have y29:∀ b,blkOf A2 b->(b=v16.heap.size∨b=v28.heap.size)/\b<v29.heap.size:=fun b hb=>⟨(n29 b hb).imp (fun h=>a_j h) id,(p29.base b hb).2⟩
    refine ⟨A2,m4,CA2,v29,r29,⟨k28e2.keepT x29 (by decide),trivial⟩,by simp,?_⟩
    have d29:Made mb w1 v29:=⟨d28.ext.trans x29 fun b hb hbl=>(a_q k28e2 (.inl hb) hbl).elim,d28.mkr.ext x29 (a_q k28e2 (.inl hmb1))⟩
    have k29A1:=p28.keep x29 (fun b hb hbl=>by have h1:=y28 b hb;have h2:=a_j hbl;omega)
    have k29D:PDirs (fun b=>v26.heap.size<=b/\b<v27.heap.size) _ A0 L0 C0 x.dirs:=PDirs.keep (Ext.keeps x29 (fun b hb _=>hb) (fun b hb _ hbl=>by have h1:=hb.1;have h3:=hb.2;have h2:=a_j hbl;omega)) k28D
    refine (a_c d29.mkr).mono ?_
    rintro _ v30 ⟨q0,rfl,e30⟩
    have z30:=e30.ext.size
    have k30A1:=k29A1.keep e30.ext (fun b hb e=>by have h1:=(k29A1.base b hb).1;have h2:b=mb:=e;omega)
    have k30A2:=p29.keep e30.ext (fun b hb e=>by have h1:=(p29.base b hb).1;have h2:b=mb:=e;omega)
    have k30D:PDirs (fun b=>v26.heap.size<=b/\b<v27.heap.size) _ A0 L0 C0 x.dirs:=PDirs.keep (Ext.keeps e30.ext (fun b hb _=>hb) (fun b hb _ e=>by have h1:=hb.1;have h2:b=mb:=e;omega)) k29D
    have d30:=d29.trans e30
    exact ⟨_,rfl,⟨e30.keepT d29.mkr _ (by decide),trivial⟩,by simp,trivial,trivial,trivial,trivial,key19 A0 L0 C0 A1 CA1 A2 CA2 q0 v30 d30 (PDirs.keep (Keeps.all v30 fun b hb hl=>by have:=hb.1;have:=hb.2;show w1.heap.size<=b;omega) k30D) ⟨_,k30A1,q28⟩ ⟨_,k30A2,q29⟩⟩
  ·have o31:=Own.made w1.heap.size w2 9 1 0 #[] (d2.ext.size) (by simp) (by simp)
   have x31:EF w2 (w2.alloc (.cells #[] 9)):=(Ext.refl _).alloc _
   have z31:(w2.alloc (.cells #[] 9)).heap.size=w2.heap.size+1:=by simp
   refine ⟨by simp,?_⟩
   generalize (w2.alloc (.cells #[] 9))=v31 at o31 x31 z31 ⊢
   have d31:=d2.then x31
   refine ⟨?_,?_⟩
   ·refine (a_k (hv1.keep (d31.keep hmk1)) okd d31.mkr).mono ?_
    rintro _ v32 ⟨A0,L0,C0,rfl,e32,f32⟩
    have z32:=e32.ext.size
    refine ⟨_,_,_,rfl,⟨e32.keepT d31.mkr _ (by decide),trivial⟩,by simp,?_⟩
    have k32e2:=o31.keep e32.ext (fun b hb e=>by have h1:=(o31.base b hb).1;have h2:b=mb:=e;omega)
    have g32:PDirs (fun b=>v31.heap.size<=b/\b<v32.heap.size) v32 A0 L0 C0 x.dirs:=PDirs.keep (Keeps.all v32 fun b hb hl=>⟨hb,hl⟩) f32
    have d32:=d31.trans e32
    have o33:=Own.made w1.heap.size v32 9 1 0 #[] (d32.ext.size) (by simp) (by simp)
    have x33:EF v32 (v32.alloc (.cells #[] 9)):=(Ext.refl _).alloc _
    have z33:(v32.alloc (.cells #[] 9)).heap.size=v32.heap.size+1:=by simp
    refine ⟨by simp,?_⟩
    generalize (v32.alloc (.cells #[] 9))=v33 at o33 x33 z33 ⊢
    have k33e2:=k32e2.keep x33 (fun _ _=>id)
    have k33D:PDirs (fun b=>v31.heap.size<=b/\b<v32.heap.size) _ A0 L0 C0 x.dirs:=PDirs.keep (Ext.keeps x33 (fun b hb _=>hb) (fun b hb _=>id)) g32
    have d33:=d32.then x33
    obtain ⟨A1,CA1,v34,r34,⟨cells34,p34,q34⟩,x34,n34⟩:=a_i o33 d33.ext.size .nil (hv2.keep (d33.keep hmk1)) (by omega)
    rw [Nat.zero_add] at r34 p34
    have z34:=x34.size
    have y34:∀ b,blkOf A1 b->(b=v32.heap.size∨b=v33.heap.size)/\b<v34.heap.size:=fun b hb=>⟨(n34 b hb).imp (fun h=>a_j h) id,(p34.base b hb).2⟩
    refine ⟨A1,m2,CA1,v34,r34,⟨o33.keepT x34 (by decide),trivial⟩,by simp,?_⟩
    have d34:Made mb w1 v34:=⟨d33.ext.trans x34 fun b hb hbl=>(a_q o33 (.inl hb) hbl).elim,d33.mkr.ext x34 (a_q o33 (.inl hmb1))⟩
    have k34e2:=k33e2.keep x34 (fun b hb hbl=>by have h1:=a_j hb;have h2:=a_j hbl;omega)
    have k34D:PDirs (fun b=>v31.heap.size<=b/\b<v32.heap.size) _ A0 L0 C0 x.dirs:=PDirs.keep (Ext.keeps x34 (fun b hb _=>hb) (fun b hb _ hbl=>by have h1:=hb.1;have h3:=hb.2;have h2:=a_j hbl;omega)) k33D
    obtain ⟨A2,CA2,v35,r35,⟨cells35,p35,q35⟩,x35,n35⟩:=a_i k34e2 d34.ext.size .nil (hv4.keep (d34.keep hmk1)) (by omega)
    rw [Nat.zero_add] at r35 p35
    have z35:=x35.size
    have y35:∀ b,blkOf A2 b->(b=w2.heap.size∨b=v34.heap.size)/\b<v35.heap.size:=fun b hb=>⟨(n35 b hb).imp (fun h=>a_j h) id,(p35.base b hb).2⟩
    refine ⟨A2,m4,CA2,v35,r35,⟨k34e2.keepT x35 (by decide),trivial⟩,by simp,?_⟩
    have d35:Made mb w1 v35:=⟨d34.ext.trans x35 fun b hb hbl=>(a_q k34e2 (.inl hb) hbl).elim,d34.mkr.ext x35 (a_q k34e2 (.inl hmb1))⟩
    have k35A1:=p34.keep x35 (fun b hb hbl=>by have h1:=y34 b hb;have h2:=a_j hbl;omega)
    have k35D:PDirs (fun b=>v31.heap.size<=b/\b<v32.heap.size) _ A0 L0 C0 x.dirs:=PDirs.keep (Ext.keeps x35 (fun b hb _=>hb) (fun b hb _ hbl=>by have h1:=hb.1;have h3:=hb.2;have h2:=a_j hbl;omega)) k34D
    refine (a_c d35.mkr).mono ?_
    rintro _ v36 ⟨q0,rfl,e36⟩
    have z36:=e36.ext.size
    have k36A1:=k35A1.keep e36.ext (fun b hb e=>by have h1:=(k35A1.base b hb).1;have h2:b=mb:=e;omega)
    have k36A2:=p35.keep e36.ext (fun b hb e=>by have h1:=(p35.base b hb).1;have h2:b=mb:=e;omega)
    have k36D:PDirs (fun b=>v31.heap.size<=b/\b<v32.heap.size) _ A0 L0 C0 x.dirs:=PDirs.keep (Ext.keeps e36.ext (fun b hb _=>hb) (fun b hb _ e=>by have h1:=hb.1;have h2:b=mb:=e;omega)) k35D
    have d36:=d35.trans e36
    exact ⟨_,rfl,⟨e36.keepT d35.mkr _ (by decide),trivial⟩,by simp,trivial,trivial,trivial,trivial,key19 A0 L0 C0 A1 CA1 A2 CA2 q0 v36 d36 (PDirs.keep (Keeps.all v36 fun b hb hl=>by have:=hb.1;have:=hb.2;show w1.heap.size<=b;omega) k36D) ⟨_,k36A1,q34⟩ ⟨_,k36A2,q35⟩⟩
   ·have o37:=Own.made w1.heap.size v31 9 1 0 #[] (d31.ext.size) (by simp) (by simp)
    have x37:EF v31 (v31.alloc (.cells #[] 9)):=(Ext.refl _).alloc _
    have z37:(v31.alloc (.cells #[] 9)).heap.size=v31.heap.size+1:=by simp
    refine ⟨by simp,?_⟩
    generalize (v31.alloc (.cells #[] 9))=v37 at o37 x37 z37 ⊢
    have k37e2:=o31.keep x37 (fun _ _=>id)
    have d37:=d31.then x37
    refine (a_k (hv1.keep (d37.keep hmk1)) okd d37.mkr).mono ?_
    rintro _ v38 ⟨A0,L0,C0,rfl,e38,f38⟩
    have z38:=e38.ext.size
    refine ⟨_,_,_,rfl,⟨e38.keepT d37.mkr _ (by decide),trivial⟩,by simp,?_⟩
    have k38e1:=o37.keep e38.ext (fun b hb e=>by have h1:=(o37.base b hb).1;have h2:b=mb:=e;omega)
    have k38e2:=k37e2.keep e38.ext (fun b hb e=>by have h1:=(k37e2.base b hb).1;have h2:b=mb:=e;omega)
    have g38:PDirs (fun b=>v37.heap.size<=b/\b<v38.heap.size) v38 A0 L0 C0 x.dirs:=PDirs.keep (Keeps.all v38 fun b hb hl=>⟨hb,hl⟩) f38
    have d38:=d37.trans e38
    obtain ⟨A1,CA1,v39,r39,⟨cells39,p39,q39⟩,x39,n39⟩:=a_i k38e1 d38.ext.size .nil (hv2.keep (d38.keep hmk1)) (by omega)
    rw [Nat.zero_add] at r39 p39
    have z39:=x39.size
    have y39:∀ b,blkOf A1 b->(b=v31.heap.size∨b=v38.heap.size)/\b<v39.heap.size:=fun b hb=>⟨(n39 b hb).imp (fun h=>a_j h) id,(p39.base b hb).2⟩
    refine ⟨A1,m2,CA1,v39,r39,⟨k38e1.keepT x39 (by decide),trivial⟩,by simp,?_⟩
    have d39:Made mb w1 v39:=⟨d38.ext.trans x39 fun b hb hbl=>(a_q k38e1 (.inl hb) hbl).elim,d38.mkr.ext x39 (a_q k38e1 (.inl hmb1))⟩
    have k39e2:=k38e2.keep x39 (fun b hb hbl=>by have h1:=a_j hb;have h2:=a_j hbl;omega)
    have k39D:PDirs (fun b=>v37.heap.size<=b/\b<v38.heap.size) _ A0 L0 C0 x.dirs:=PDirs.keep (Ext.keeps x39 (fun b hb _=>hb) (fun b hb _ hbl=>by have h1:=hb.1;have h3:=hb.2;have h2:=a_j hbl;omega)) g38
    obtain ⟨A2,CA2,v40,r40,⟨cells40,p40,q40⟩,x40,n40⟩:=a_i k39e2 d39.ext.size .nil (hv4.keep (d39.keep hmk1)) (by omega)
    rw [Nat.zero_add] at r40 p40
    have z40:=x40.size
    have y40:∀ b,blkOf A2 b->(b=w2.heap.size∨b=v39.heap.size)/\b<v40.heap.size:=fun b hb=>⟨(n40 b hb).imp (fun h=>a_j h) id,(p40.base b hb).2⟩
    refine ⟨A2,m4,CA2,v40,r40,⟨k39e2.keepT x40 (by decide),trivial⟩,by simp,?_⟩
    have d40:Made mb w1 v40:=⟨d39.ext.trans x40 fun b hb hbl=>(a_q k39e2 (.inl hb) hbl).elim,d39.mkr.ext x40 (a_q k39e2 (.inl hmb1))⟩
    have k40A1:=p39.keep x40 (fun b hb hbl=>by have h1:=y39 b hb;have h2:=a_j hbl;omega)
    have k40D:PDirs (fun b=>v37.heap.size<=b/\b<v38.heap.size) _ A0 L0 C0 x.dirs:=PDirs.keep (Ext.keeps x40 (fun b hb _=>hb) (fun b hb _ hbl=>by have h1:=hb.1;have h3:=hb.2;have h2:=a_j hbl;omega)) k39D
    refine (a_c d40.mkr).mono ?_
    rintro _ v41 ⟨q0,rfl,e41⟩
    have z41:=e41.ext.size
    have k41A1:=k40A1.keep e41.ext (fun b hb e=>by have h1:=(k40A1.base b hb).1;have h2:b=mb:=e;omega)
    have k41A2:=p40.keep e41.ext (fun b hb e=>by have h1:=(p40.base b hb).1;have h2:b=mb:=e;omega)
    have k41D:PDirs (fun b=>v37.heap.size<=b/\b<v38.heap.size) _ A0 L0 C0 x.dirs:=PDirs.keep (Ext.keeps e41.ext (fun b hb _=>hb) (fun b hb _ e=>by have h1:=hb.1;have h2:b=mb:=e;omega)) k40D
    have d41:=d40.trans e41
    exact ⟨_,rfl,⟨e41.keepT d40.mkr _ (by decide),trivial⟩,by simp,trivial,trivial,trivial,trivial,key19 A0 L0 C0 A1 CA1 A2 CA2 q0 v41 d41 (PDirs.keep (Keeps.all v41 fun b hb hl=>by have:=hb.1;have:=hb.2;show w1.heap.size<=b;omega) k41D) ⟨_,k41A1,q39⟩ ⟨_,k41A2,q40⟩⟩
 ·have hle:=odf hge
  rw [List.take_of_length_le (by omega)] at hst
  exact ⟨A,_,C,rfl,hst.1,hst.2.done h_Z (by omega)⟩
end Go.VC
