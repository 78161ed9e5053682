/- Part of the proof of a law of a rule over documents (SpecE), where what the arguments hold is of bulk at most 1048576. -/
import Derived.Test.YtkgkigklbpefgaaGreatTextF
import Derived.Test.YtkgkigklbpefgaaGreatSpecD
set_option linter.unusedVariables false
set_option linter.unusedSectionVars false
namespace Go.VC
open Go Go.Proofs
variable [DB]
variable {n u:BA}{f:Frag}{O:List BA}{frags:List Frag}{c c' l l':Nat}{a a':OA}{w:World}
def restF (O:List BA)(f:Frag):Nat:=bif O.any fun u=>decide (u=f.name) then 0 else (spL f.kids).length
def restN (frags:List Frag)(O:List BA):Nat:=(frags.map (restF O)).sum
theorem l_c (h:f.name∈O):restF O f=0:=by
 have:(O.any fun u=>decide (u=f.name))=true:=List.any_eq_true.2 ⟨_,h,by simp⟩;rw [restF,this];rfl
theorem g_H (h:f.name∉O):restF O f=(spL f.kids).length:=by
 have:(O.any fun u=>decide (u=f.name))=false:=List.any_eq_false.2 fun u hu=>by
  simp only [decide_eq_true_eq];exact fun e=>h (e▸hu)
 rw [restF,this];rfl
theorem l_d (O:List BA)(u:BA)(f:Frag):restF (O++[u]) f<=restF O f:=by
 by_cases h:f.name∈O++[u]
 ·rw [l_c h];omega
 ·rw [g_H h,g_H fun h'=>h (ma_.2 (.inl h'))];omega
theorem n_G (hf:f∈frags)(hn:f.name∉O):restN frags (O++[f.name])+(spL f.kids).length<=restN frags O:=by
 have h1:∀ xs:List Frag,(xs.map (restF (O++[f.name]))).sum<=(xs.map (restF O)).sum:=fun xs=>c_0 fun x _=>l_d O f.name x;have h2:∀ xs:List Frag,f∈xs->(xs.map (restF (O++[f.name]))).sum+(spL f.kids).length<=(xs.map (restF O)).sum:=by
  intro xs;induction xs with
  | nil=>intro h;simp at h
  | cons x xs ih=>
   intro h;simp only [List.map_cons,List.sum_cons];rcases mc_.1 h with rfl|h
   ·have:=h1 xs;rw [l_c (by simp),g_H hn];omega
   ·have:=ih h;have:=l_d O f.name x;omega
 exact h2 frags hf
theorem n_F (frags:List Frag):restN frags []=(frags.map fun f=>(spL f.kids).length).sum:=rfl
theorem k_3 {fs:List Frag}:isFr fs n=true↔∃ f,a_h Frag.name fs n=some f:=Option.isSome_iff_exists
theorem l_6 {ak:OA}{lk ck:Nat}{ks:List Sel}(hl':a_X w a' l' c' frags)(hk:RSels w ak lk ck ks)(okk:a_z ks)(okf:∀ f∈frags,b_j f)
  (hs0:(spL ks).length<=2097152) (hs:(frags.map fun f=>(spL f.kids).length).sum<=2097152):
  CP 81 #[.agg #[.slice a l c,.slice a' l' c'],.slice ak lk ck] w fun e w'=>∃ A L C xs,e=.returned (.slice A L C)/\EF w w'/\Qs w.heap.size w' A L C xs/\(∀ n,n∈xs↔Rch frags ks n)/\xs.length<=frags.length/\xs.Nodup:=by
 have x4:EF w (w.alloc (.cells #[.slice a l c,.slice a' l' c'] 30)):=(Ext.refl w).alloc _;have hfl:=hl'.len;refine m_R a l c a' l' c' ak lk ck w _ ⟨trivial,?_⟩;refine (e_v ks ak lk ck _ (RSels.keep x4.keep hk) okk (by omega)).mono ?_;rintro _ w6 ⟨A7,L7,C7,rfl,x6,hL7,cells7,o7,f7⟩;have y6:=x4.then x6;have hw4:=x4.size;have q7:Qs w.heap.size w6 A7 L7 C7 (spL ks):=by
  obtain ⟨h1,h2,h3,h4|⟨g,off,cs,h4,h5,h6⟩⟩:=Qs.own o7 f7
  ·exact ⟨h1,h2,h3,.inl h4⟩
  ·exact ⟨h1,h2,h3,.inr ⟨g,off,cs,h4,lt_ hw4 h5,h6⟩⟩
 obtain ⟨M,hM⟩:∃ M,M=(spL ks).length+(frags.map fun f=>(spL f.kids).length).sum:=⟨_,rfl⟩;refine ⟨A7,L7,C7,rfl,⟨x6.keepT _,trivial⟩,fun oa ol oc wa wl wc w1=>EF w w1/\∃ O W:List BA,Qs w.heap.size w1 oa ol oc O/\Qs w.heap.size w1 wa wl wc W/\(∀ b,blkOf oa b->¬ blkOf wa b)/\O.Nodup/\(∀ n∈O,n∈frags.map Frag.name)/\(∀ n∈O,Rch frags ks n)/\(∀ n∈W,isFr frags n=true->Rch frags ks n)/\
   (∀ n∈spL ks,isFr frags n=true->n∈O∨n∈W)/\(∀ m∈O,∀ f,a_h Frag.name frags m=some f->∀ n∈spL f.kids,isFr frags n=true->n∈O∨n∈W)/\W.length+restN frags O<=M,
  fun _ ol _ _ wl _ _=>(frags.length-ol)*(M+1)+wl,⟨y6,[],spL ks,Qs.nil _ _,q7,fun b h=>(by obtain ⟨p,h,-⟩:=h;cases h),List.nodup_nil,by simp,by simp,fun n hn hi=>.base hn hi,fun n hn _=>.inr hn,by simp,by rw [n_F,hM];exact Nat.le_refl _⟩,?_⟩
 rintro oa ol oc wa wl wc w1 ⟨hx,O,W,qO,qW,hap,hnd,hsub,hO,hW,hc1,hc2,hbd⟩;have hol:=qO.1;have hwl:=qW.1;have hlen:O.length<=frags.length:=by
  have:=c_K hnd hsub;simpa using this
 refine ⟨fun hgt=>?_,fun hle=>?_⟩
 ·have hgt:=odt hgt;cases W with
  | nil=>simp at hwl;omega
  | cons n W=>
  obtain ⟨p,hp,hcell⟩:=qW.get (j:=0) rfl;have hsn:=qW.2.2.1 n (by simp);have hwc:=qW.2.1;obtain ⟨qT,hTb⟩:=qW.tail;refine ⟨p,hp,⟨by omega,hgt⟩,n,hcell,⟨by omega,by omega,by omega⟩,?_⟩;refine (n_R n hx hl').mono ?_;rintro _ w16 ⟨s17,s18,a19,l19,c19,a20,l20,c20,b21,rfl,x16,hb,hbt,hbf⟩;have x23:EF w1 (w16.alloc (.cells #[.string s17,.string s18,.slice a19 l19 c19,.slice a20 l20 c20] 63)):=x16.alloc _;refine ⟨s17,s18,a19,l19,c19,a20,l20,c20,b21,rfl,⟨x16.keepT _,trivial⟩,trivial,trivial,fun K24 hK24=>?_⟩;have hbi:b21=true↔isFr frags n=true:=⟨fun h=>by
   obtain ⟨f,hf,-⟩:=hbt h;exact k_3.2 ⟨f,hf⟩,fun h=>by
   cases b21 with
   | true=>rfl
   | false=>
    obtain ⟨f,hf⟩:=k_3.1 h;rw [(hbf rfl).1] at hf;cases hf⟩
  have hz1:=hx.size;have key:∀ (b:Bool) (w26:World),EF w1 w26->(b=true↔b21=true/\n∉O)->K24 b w26:=by
   intro b w26 x26 hbb;refine hK24 b w26 ⟨fun h=>?_,fun h=>?_⟩
   ·obtain ⟨h21,hnO⟩:=hbb.1 h;obtain ⟨f,hf,-, -, -, hfk⟩:=hbt h21;obtain ⟨hfm,hfn⟩:=a_U hf;have x27:EF w26 (w26.alloc (.cells #[.string n] 9)):=(Ext.refl w26).alloc _;have z26:=x26.size;have z27:=x27.size;have q27:=(qO.keep x26 fun _ _=>id).keep x27 fun _ _=>id;have hfb:O.length+1<=frags.length:=by
     have:(n::O).length<=(frags.map Frag.name).length:=c_K (List.nodup_cons.2 ⟨hnO,hnd⟩) fun u hu=>(mc_.1 hu).elim (fun e=>e▸mm_.2 ⟨f,hfm,hfn⟩) (hsub u);simpa using this
    obtain ⟨A28,C28,w29,r29,q28,x29,k29,hb28⟩:=q27.more (lt_ (lt_ hz1 z26) z27) (Qs.one w26 hsn) (by omega);have y29:EF w w29:=((hx.then x26).then x27).trans x29 fun b hb' hbl=>by
     have:=(q27.base b hbl).1;omega
    have z29:=x29.size;have qT29:=((qT.keep x26 fun _ _=>id).keep x27 fun _ _=>id).keep x29 fun b hb hob=>hap b hob (hTb b hb);have hsp:(spL f.kids).length<=(frags.map fun f=>(spL f.kids).length).sum:=j_s (fun f:Frag=>(spL f.kids).length) hfm;refine ⟨trivial,A28,ol+1,C28,w29,r29,⟨k29 _ (by decide),k29 _ (by decide),trivial⟩,?_⟩;refine (e_v f.kids a20 l20 c20 w29 (RSels.keep y29.keep hfk) (okf f hfm).2.1 (by omega)).mono ?_;rintro _ w31 ⟨A32,L32,C32,rfl,x31,hL32,cells32,o32,f32⟩;refine ⟨A32,L32,C32,rfl,⟨x31.keepT _,x31.keepT _,trivial⟩,?_⟩;have qS:=Qs.own o32 f32;have qT31:=qT29.keep x31 fun _ _=>id;have z31:=x31.size;have y31:=y29.then x31;have hWl:W.length+1<=M:=by
     simp only [List.length_cons] at hbd;omega
    simp only [List.length_cons] at hwl;obtain ⟨A33,C33,w34,r34,q34,x34,k34,hb34⟩:=qT31.more (by omega) qS (by omega);have y34:EF w w34:=y31.trans x34 fun b hb' hbl=>by
     have:=(qT31.base b hbl).1;omega
    have q28':=(q28.keep x31 fun _ _=>id).keep x34 fun b hbA hbT=>by
     have h1:=hTb b hbT;rcases hb28 b hbA with h2|h2
     ·exact hap b h2 h1
     ·have:=(qW.base b h1).2;omega
    have hput:=n_G hfm (by rw [hfn];exact hnO);rw [hfn] at hput;have hRn:=hW n (by simp) (hbi.1 h21);refine ⟨A33,(wl-1)+L32,C33,w34,r34,⟨k34 _ (by decide),k34 _ (by decide),trivial⟩,⟨y34,O++[n],W++spL f.kids,q28',q34,fun b hbA hbW=>?_,e_Z.2 ⟨hnd,hnO⟩,fun u hu=>?_,fun u hu=>?_,fun u hu hi=>?_,fun u hu hi=>?_,fun m hm f' hf' u hu hi=>?_,?_⟩,?_⟩
    ·rcases hb34 b hbW with h1|h1
     ·have h1:=hTb b h1;rcases hb28 b hbA with h2|h2
      ·exact hap b h2 h1
      ·have:=(qW.base b h1).2;omega
     ·have:=(q28.base b hbA).2;omega
    ·rcases ma_.1 hu with hu|hu
     ·exact hsub u hu
     ·rw [List.mem_singleton.1 hu];exact mm_.2 ⟨f,hfm,hfn⟩
    ·rcases ma_.1 hu with hu|hu
     ·exact hO u hu
     ·rw [List.mem_singleton.1 hu];exact hRn
    ·rcases ma_.1 hu with hu|hu
     ·exact hW u (List.mem_cons_of_mem _ hu) hi
     ·exact .step hRn hf hu hi
    ·rcases hc1 u hu hi with h|h
     ·exact .inl (ma_.2 (.inl h))
     ·rcases mc_.1 h with rfl|h
      ·exact .inl (by simp)
      ·exact .inr (ma_.2 (.inl h))
    ·rcases ma_.1 hm with hm|hm
     ·rcases hc2 m hm f' hf' u hu hi with h|h
      ·exact .inl (ma_.2 (.inl h))
      ·rcases mc_.1 h with rfl|h
       ·exact .inl (by simp)
       ·exact .inr (ma_.2 (.inl h))
     ·rw [List.mem_singleton.1 hm,hf] at hf';obtain rfl:f=f':=Option.some.inj hf';exact .inr (ma_.2 (.inr hu))
    ·simp only [List.length_cons] at hbd;rw [la_];omega
    ·have e1:frags.length-ol=(frags.length-(ol+1))+1:=by omega
     have e2:(frags.length-ol)*(M+1)=(frags.length-(ol+1))*(M+1)+(M+1):=by rw [e1,Nat.add_mul,Nat.one_mul]
     simp only [List.length_cons] at hbd;show (frags.length-(ol+1))*(M+1)+((wl-1)+L32)<(frags.length-ol)*(M+1)+wl;omega
   ·have hno:isFr frags n=true->n∈O:=fun hi=>by
     by_cases hn:n∈O
     ·exact hn
     ·rw [hbb.2 ⟨hbi.2 hi,hn⟩] at h;cases h
    refine ⟨⟨hx.then x26,O,W,qO.keep x26 fun _ _=>id,qT.keep x26 fun _ _=>id,fun b hbA hbW=>hap b hbA (hTb b hbW),hnd,hsub,hO,fun u hu=>hW u (List.mem_cons_of_mem _ hu),fun u hu hi=>?_,fun m hm f' hf' u hu hi=>?_,?_⟩,?_⟩
    ·rcases hc1 u hu hi with h|h
     ·exact .inl h
     ·rcases mc_.1 h with rfl|h
      ·exact .inl (hno hi)
      ·exact .inr h
    ·rcases hc2 m hm f' hf' u hu hi with h|h
     ·exact .inl h
     ·rcases mc_.1 h with rfl|h
      ·exact .inl (hno hi)
      ·exact .inr h
    ·simp only [List.length_cons] at hbd;omega
    ·show (frags.length-ol)*(M+1)+(wl-1)<(frags.length-ol)*(M+1)+wl;omega
  refine ⟨fun h21=>?_,fun h21=>key false _ x23 ⟨nofun,fun h=>by rw [h.1] at h21;cases h21⟩⟩;refine (c_in n ((qO.keep x23 fun _ _=>id).sl (by omega))).mono ?_;rintro _ w36 ⟨b37,rfl,x36,hb37⟩;refine ⟨b37,rfl,⟨x36.keepT _,x36.keepT _,trivial⟩,key _ w36 (x23.then x36) ⟨fun h=>⟨h21,fun hn=>by rw [hb37.2 hn] at h;cases h⟩,fun h=>?_⟩⟩;cases b37 with
  | false=>rfl
  | true=>exact absurd (hb37.1 rfl) h.2
 ·have hle:=odf hle;have hW0:W=[]:=List.length_eq_zero_iff.1 (by omega);subst hW0;refine ⟨oa,ol,oc,O,rfl,hx,qO,fun n=>⟨hO n,fun h=>?_⟩,hlen,hnd⟩;induction h with
  | base h1 h2=>exact (hc1 _ h1 h2).resolve_right (by simp)
  | step _ hf h1 h2 ih=>exact (hc2 _ ih _ hf _ h1 h2).resolve_right (by simp)
theorem j_2 (hl':a_X w a' l' c' frags)(okf:∀ f∈frags,b_j f)(h12:frags.length<=12)(hs:(frags.map fun f=>(spL f.kids).length).sum<=2097152):
  CP 34 #[.agg #[.slice a l c,.slice a' l' c']] w (RetB w fun b=>b=true↔∃ f∈frags,Rch frags f.kids f.name):=by
 obtain ⟨e1,e3⟩:=hl'.len;have hx0:=(Ext.refl (X:=fun _=>False) w).alloc (.cells #[.slice a l c,.slice a' l' c'] 30);refine k_q a l c a' l' c' w _ ⟨trivial,fun i w1=>0<=i/\i<=l'/\EF w w1/\∀ f∈frags.take i.toNat,¬ Rch frags f.kids f.name,fun i _=>((l':Int)-i).toNat,⟨by omega,by omega,hx0,by simp⟩,?_⟩;rintro i w1 ⟨h0,hi,hx,hn⟩;refine ⟨fun hlt=>?_,fun hge=>?_⟩
 ·have hlt:=odt hlt;obtain ⟨p,x,hp,hxs,cs,hc,a2,l2,c2,a3,l3,c3,rfl,hv2,hv3⟩:=hl'.get h0 hlt;obtain ⟨⟨_,_,hc0⟩,hs0,⟨_,_,hc1⟩,hs1,⟨_,_,hc2⟩,hs2,⟨_,_,hc3⟩,-⟩:=hc;have hmem:=mg_ hxs;have hx14:=hx.alloc (.cells #[.string x.name,.string x.on,.slice a2 l2 c2,.slice a3 l3 c3] 63);refine ⟨p,hp,⟨h0,hlt⟩,_,hx.cell hc0 id,_,hx.cell hc1 id,_,_,_,hx.cell hc2 id,_,_,_,hx.cell hc3 id,trivial,trivial,fun w15 e15=>?_⟩;have hx15:EF w w15:=by rw [e15];exact hx14.drew
  have hsp:(spL x.kids).length<=(frags.map fun f=>(spL f.kids).length).sum:=j_s (fun f:Frag=>(spL f.kids).length) hmem;refine (l_6 (hl'.keep hx15.keep) (RSels.keep hx15.keep hv3) (okf x hmem).2.1 okf (by omega) hs).mono ?_;rintro _ w17 ⟨A,L,C,xs,rfl,x17,q17,hxs17,hlen,-⟩;have hL:=q17.1;refine ⟨A,L,C,rfl,⟨x17.keepT _,x17.keepT _,trivial⟩,⟨rfl,trivial⟩,?_⟩;refine (c_in x.name (q17.sl (by omega))).mono ?_;rintro _ w20 ⟨b,rfl,x20,hb⟩;have y20:=(hx15.then x17).then x20;refine ⟨b,rfl,⟨x20.keepT _,x20.keepT _,trivial⟩,trivial,fun h=>⟨true,rfl,y20,fun _=>⟨x,hmem,(hxs17 _).1 (hb.1 h)⟩,fun _=>rfl⟩,fun h=>?_⟩;rw [a_a h0 (by omega)];refine next h0 hlt ⟨y20,a_g h0 hn hxs fun hr=>?_⟩
  rw [hb.2 ((hxs17 _).2 hr)] at h;cases h
 ·have hall:=a_o e1 hge hn;exact ⟨false,rfl,hx,nofun,fun ⟨f,hf,hr⟩=>absurd hr (hall f hf)⟩
structure SoundD (types:List Def) (roots:List RootD) (ops:List OpD) (frags:List Frag):Prop where
 ty:∀ n,n∈c_H ops frags∨n∈b_a ops->(findD types n).2=true
 co:∀ n∈c_H ops frags,c_R (findD types n).1.kind
 inp:∀ n∈b_a ops,i_s (findD types n).1.kind
 rt:∀ x∈ops,rootD roots x.kind≠E0
 fr:(frags.map Frag.name).Nodup
 sp:∀ n∈spAll ops frags,isFr frags n=true
 ac:∀ f∈frags,¬ Rch frags f.kids f.name
theorem o_e {fs:List Frag}(h:∃ f∈fs,f.name=n):isFr fs n=true:=by
 obtain ⟨f,hf,rfl⟩:=h;exact List.find?_isSome.2 ⟨f,hf,by simp⟩
theorem i_R:∀ l:List Sel,(spL l).length<=selL l
 | []=>Nat.le_refl _
 | .mk k al n on args dirs kids::l=>by
  have h1:=i_R kids;have h2:=i_R l;simp only [spL,spS,selL,selS,la_];split
  ·simp only [List.length_cons,List.length_nil];omega
  ·omega
theorem n_K (ops:List OpD)(frags:List Frag):spTot ops frags<=e_O ops frags:=Nat.add_le_add (c_0 fun _ _=>i_R _) (c_0 fun _ _=>i_R _)
theorem i_c {k:Nat}{A4:OA}{L4 C4:Nat}{A:OA}{L C:Nat}{A3:OA}{L3 C3:Nat}{types:List Def}{roots:List RootD}{ops:List OpD}(hB:Blk w k 79 [.slice A4 L4 C4,.slice A L C,.slice A3 L3 C3])(hT:RDefs w A4 L4 C4 types)(hR:b_w w A L C roots)(hl:ROps w a l c ops)(hl':a_X w a' l' c' frags)(ok1:∀ x∈ops,okOp x)(ok2:∀ x∈frags,b_j x)(h12:frags.length<=12)(hs:docW ops frags<=2097152):
  CP 15 #[.pointer (some (adr k)),.agg #[.slice a l c,.slice a' l' c']] w (RetB w fun b=>b=true->SoundD types roots ops frags):=by
 have hs':=n_O ops frags;have hsp:=n_K ops frags;have hx0:=(Ext.refl (X:=fun _=>False) w).alloc (.cells #[.slice a l c,.slice a' l' c'] 30);have hsf:(frags.map fun f=>(spL f.kids).length).sum<=spTot ops frags:=Nat.le_add_left _ _;refine i_D (some (adr k)) a l c a' l' c' w _ ⟨trivial,fun K5 hK5=>?_⟩;have no:∀ w',EF w w'->K5 false w':=fun w' hx=>hK5 false w' ⟨false,rfl,hx,nofun⟩;refine (g_1 (hB.ext hx0 id) (hT.keep hx0.keep) (hl.keep hx0.keep) (hl'.keep hx0.keep) ok1 ok2 h12 (by omega)).mono ?_;rintro _ w9 ⟨b10,rfl,x9,h10⟩;have y9:=hx0.then x9;refine ⟨b10,rfl,⟨x9.keepT _,trivial⟩,fun g1=>?_,fun _=>no _ y9⟩;refine (d_0 (hB.ext y9 id) (hT.keep y9.keep) (hl.keep y9.keep) (hl'.keep y9.keep) ok1 ok2 h12 (by omega)).mono ?_;rintro _ w12 ⟨b13,rfl,x12,h13⟩;have y12:=y9.then x12;refine ⟨b13,rfl,⟨x12.keepT _,trivial⟩,fun g2=>?_,fun _=>no _ y12⟩;refine (f_X (hB.ext y12 id) (hT.keep y12.keep) (hl.keep y12.keep) (hl'.keep y12.keep) (by omega)).mono ?_;rintro _ w15 ⟨b16,rfl,x15,h16⟩;have y15:=y12.then x15;refine ⟨b16,rfl,⟨x15.keepT _,trivial⟩,fun g3=>?_,fun _=>no _ y15⟩;refine (g_0 (hB.ext y15 id) (hR.keep y15.keep) (hl.keep y15.keep)).mono ?_;rintro _ w18 ⟨b19,rfl,x18,h19⟩;have y18:=y15.then x18;refine ⟨b19,rfl,⟨x18.keepT _,trivial⟩,fun g4=>?_,fun _=>no _ y18⟩;refine (i_6 (hl.keep y18.keep) (hl'.keep y18.keep)).mono ?_;rintro _ w21 ⟨b22,rfl,x21,h22⟩;have y21:=y18.then x21;refine ⟨b22,rfl,⟨x21.keepT _,trivial⟩,fun g5=>?_,fun _=>no _ y21⟩;refine (n_o (hl.keep y21.keep) (hl'.keep y21.keep) ok1 ok2 (by omega)).mono ?_;rintro _ w24 ⟨b25,rfl,x24,h25⟩;have y24:=y21.then x24;refine ⟨b25,rfl,⟨x24.keepT _,trivial⟩,fun g6=>?_,fun _=>no _ y24⟩;refine (j_2 (hl'.keep y24.keep) ok2 h12 (by omega)).mono ?_;rintro _ w27 ⟨b28,rfl,x27,h28⟩;refine ⟨b28,rfl,⟨x27.keepT _,trivial⟩,hK5 _ _ ⟨_,rfl,y24.then x27,fun g7=>?_⟩⟩;have f:∀ {b:Bool} {P:Prop},(!b)=true->(b=true↔P)->¬ P:=fun h k p=>by rw [k.2 p] at h;cases h
 have n1:=f g1 h10;have n2:=f g2 h13;have n3:=f g3 h16;have n4:=f g4 h19;have n5:=f g5 h22;have n6:=f g6 h25;have n7:=f g7 h28;have ty:∀ n,n∈c_H ops frags∨n∈b_a ops->(findD types n).2=true:=fun n hn=>by
  cases h:(findD types n).2 with
  | true=>rfl
  | false=>exact absurd ⟨n,hn,h⟩ n1
 refine ⟨ty,fun n hn=>?_,fun n hn=>?_,fun x hx hE=>n4 ⟨x,hx,hE⟩,?_,fun n hn=>?_,fun f hf hr=>n7 ⟨f,hf,hr⟩⟩
 ·exact Classical.byContradiction fun hc=>n2 ⟨n,hn,ty n (.inl hn),hc⟩
 ·exact Classical.byContradiction fun hc=>n3 ⟨n,hn,ty n (.inr hn),hc⟩
 ·have:=Classical.not_not.1 n5
  rwa [o_Z fun n hn=>?_] at this
  obtain ⟨f,hf,rfl⟩:=mm_.1 hn;exact (ok2 f hf).2.2
 ·refine o_e (Classical.byContradiction fun hc=>n6 ⟨n,hn,fun f hf he=>hc ⟨f,hf,he⟩⟩)
def noFld:Fld:=⟨E0,E0,[],[],.mk E0 [] false,[]⟩
def tnFld (n:BA):Fld:=⟨E0,n,[],[],.mk bStr [] true,[]⟩
def b_e (types:List Def)(u n:BA):Option Fld:=
 if n=bTn/\((findD types u).1.kind=a_V∨(findD types u).1.kind=b_i∨(findD types u).1.kind=d_n) then some (tnFld n)
 else if (findD types u).1.kind=a_V∨(findD types u).1.kind=b_i then a_h Fld.name (findD types u).1.fields n else none
def b_K (types:List Def)(u n:BA):Fld × Bool:=match b_e types u n with
 | some f=>(f,true)
 | none=>(noFld,false)
theorem b_P {types:List Def}{f:Fld}(h:b_e types u n=some f):b_K types u n=(f,true):=by rw [b_K,h]
theorem c_f {types:List Def}(h:b_e types u n=none):b_K types u n=(noFld,false):=by rw [b_K,h]
theorem o_j (w:World):RFld w noFld [.string ⟨#[]⟩,.string ⟨#[]⟩,.slice none 0 0,.slice none 0 0,.string ⟨#[]⟩,.slice none 0 0,.bool false,.slice none 0 0]:=
 ⟨none,0,0,none,0,0,_,none,0,0,false,none,0,0,rfl,SlL.nil ..,SlL.nil ..,b_M.2 ⟨rfl,rfl,SlL.nil ..⟩,SlL.nil ..⟩
theorem o_L (w:World)(n:BA):RFld w (tnFld n) [.string ⟨#[]⟩,.string n,.slice none 0 0,.slice none 0 0,.string bStr,.slice none 0 0,.bool true,.slice none 0 0]:=
 ⟨none,0,0,none,0,0,_,none,0,0,true,none,0,0,rfl,SlL.nil ..,SlL.nil ..,b_M.2 ⟨rfl,rfl,SlL.nil ..⟩,SlL.nil ..⟩
theorem e_p {k:Nat}{A4:OA}{L4 C4:Nat}{A:OA}{L C:Nat}{A3:OA}{L3 C3:Nat}{types:List Def}(hu:u.size<=4194304)(hn:n.size<=4194304)(hB:Blk w k 79 [.slice A4 L4 C4,.slice A L C,.slice A3 L3 C3])(hT:RDefs w A4 L4 C4 types):
  CP 53 #[.pointer (some (adr k)),.string u,.string n] w fun e w'=>∃ cs,e=.returned (.tuple #[.agg cs.toArray,.bool (b_K types u n).2])/\RFld w' (b_K types u n).1 cs/\(∀ v∈cs,a_v v)/\EF w w':=by
 have hx4:=(Ext.refl (X:=fun _=>False) w).alloc (.cells #[.string ⟨#[]⟩,.string ⟨#[]⟩,.slice none 0 0,.slice none 0 0,.string ⟨#[]⟩,.slice none 0 0,.bool false,.slice none 0 0] 70);refine i_E (some (adr k)) u n w _ ⟨trivial,?_⟩;refine (e_o hu ((hB.ext hx4 id).at (j:=0) rfl) hx4 hT).mono ?_;rintro _ w6 ⟨cs6,rfl,⟨b1,m1,d1,b2,m2,d2,b3,m3,d3,b4,m4,d4,b5,m5,d5,rfl,-, -, hF,-, -⟩,-, x6⟩;have y6:=hx4.then x6;have y17:=y6.alloc (.cells #[.string (findD types u).1.kind,.string (findD types u).1.doc,.string (findD types u).1.name,.slice b1 m1 d1,.slice b2 m2 d2,.slice b3 m3 d3,.slice b4 m4 d4,.slice b5 m5 d5] 85);have z17:=(Ext.refl (X:=fun _=>False) w6).alloc (.cells #[.string (findD types u).1.kind,.string (findD types u).1.doc,.string (findD types u).1.name,.slice b1 m1 d1,.slice b2 m2 d2,.slice b3 m3 d3,.slice b4 m4 d4,.slice b5 m5 d5] 85);generalize hd:(findD types u).1=d at *;have hcomp:b_e types u n=if n=bTn/\(d.kind=a_V∨d.kind=b_i∨d.kind=d_n) then some (tnFld n) else if d.kind=a_V∨d.kind=b_i then a_h Fld.name d.fields n else none:=by rw [b_e,hd]
 refine ⟨_,_,_,_,_,_,_,_,_,_,_,_,_,_,_,_,_,_,_,rfl,⟨x6.keepT _,trivial⟩,trivial,trivial,fun K18 hK18=>?_⟩;have key18:∀ (b:Bool) (w':World),EF w6 w'->(b=true↔n=bTn/\(d.kind=a_V∨d.kind=b_i∨d.kind=d_n))->K18 b w':=by
  intro b w' x' hb;have y':=y6.then x';refine hK18 b w' ⟨fun h=>?_,fun h=>?_⟩
  ·have hf:b_e types u n=some (tnFld n):=by rw [hcomp,if_pos (hb.1 h)]
   rw [b_P hf];refine ⟨trivial,trivial,trivial,_,rfl,o_L _ n,fun v hv=>?_,y'.setB (.inr (Nat.le_refl _)) _ _⟩;simp only [mc_,nn_,or_false] at hv;rcases hv with rfl|rfl|rfl|rfl|rfl|rfl|rfl|rfl
   ·exact Nat.le_of_ble_eq_true rfl
   ·exact hn
   ·rfl
   ·rfl
   ·exact Nat.le_of_ble_eq_true rfl
   ·rfl
   ·rfl
   ·rfl
  ·have hnb:¬ (n=bTn/\(d.kind=a_V∨d.kind=b_i∨d.kind=d_n)):=fun k=>by
    rw [hb.2 k] at h;cases h
   rw [if_neg hnb] at hcomp;intro K22 hK22;have key22:∀ s23 s24 a25 l25 c25 a26 l26 c26 s27 a28 l28 c28 b29 a30 l30 c30 w31,EF w w31->b_e types u n=none->K22 s23 s24 a25 l25 c25 a26 l26 c26 s27 a28 l28 c28 b29 a30 l30 c30 w31:=by
    intro s23 s24 a25 l25 c25 a26 l26 c26 s27 a28 l28 c28 b29 a30 l30 c30 w31 x31 hf;refine hK22 s23 s24 a25 l25 c25 a26 l26 c26 s27 a28 l28 c28 b29 a30 l30 c30 w31 ?_;rw [c_f hf];refine ⟨trivial,trivial,_,rfl,o_j _,fun v hv=>?_,x31.setB (.inr (Nat.le_refl _)) _ _⟩;simp only [mc_,nn_,or_false] at hv;rcases hv with rfl|rfl|rfl|rfl|rfl|rfl|rfl|rfl
    ·exact Nat.le_of_ble_eq_true rfl
    ·exact Nat.le_of_ble_eq_true rfl
    ·rfl
    ·rfl
    ·exact Nat.le_of_ble_eq_true rfl
    ·rfl
    ·rfl
    ·rfl
   intro K33 hK33;have key33:∀ (b:Bool),(b=true↔d.kind=a_V∨d.kind=b_i)->K33 b w':=by
    intro b hb33;refine hK33 b w' ⟨fun h=>?_,fun h=>?_⟩
    ·rw [if_pos (hb33.1 h)] at hcomp;obtain ⟨e1,e3⟩:=hF.len;refine ⟨fun i _ _ _ _ _ _ _ _ _ _ _ _ _ _ _ _ w1=>0<=i/\i<=m3/\EF w' w1/\a_h Fld.name (d.fields.take i.toNat) n=none,fun i _ _ _ _ _ _ _ _ _ _ _ _ _ _ _ _ _=>((m3:Int)-i).toNat,⟨by omega,by omega,Ext.refl w',by simp [a_h]⟩,?_⟩;rintro i s39 s40 a41 l41 c41 a42 l42 c42 s43 a44 l44 c44 b45 a46 l46 c46 w1 ⟨h0,hi,hx,hf1⟩;have xw1:=x'.then hx;refine ⟨fun hlt=>?_,fun hge=>?_⟩
     ·have hlt:=odt hlt;obtain ⟨p,x,hp,hxs,cs,hc,hv⟩:=hF.get h0 hlt;have hv':=hv;have yw1:=y6.then xw1;obtain ⟨a0,l0,c0,a5,l5,c5,nt,a6,l6,c6,nn,a7,l7,c7,rfl,-⟩:=hv';have hcall:=hc;obtain ⟨⟨_,_,hc0⟩,hs0,⟨_,_,hc1⟩,hs1,⟨_,_,hc2⟩,hs2,⟨_,_,hc3⟩,hs3,⟨_,_,hc4⟩,hs4,⟨_,_,hc5⟩,hs5,⟨_,_,hc6⟩,hs6,⟨_,_,hc7⟩,hs7,-⟩:=hc;have x58:=(Ext.refl (X:=fun _=>False) w1).alloc (.cells #[.string x.doc,.string x.name,.slice a0 l0 c0,.slice a5 l5 c5,.string nt,.slice a6 l6 c6,.bool nn,.slice a7 l7 c7] 70);refine ⟨p,hp,⟨h0,hlt⟩,_,yw1.cell hc0 id,_,yw1.cell hc1 id,_,_,_,yw1.cell hc2 id,_,_,_,yw1.cell hc3 id,_,yw1.cell hc4 id,_,_,_,yw1.cell hc5 id,_,yw1.cell hc6 id,_,_,_,yw1.cell hc7 id,trivial,trivial,fun he=>?_,fun hne=>?_⟩
      ·have hf:b_e types u n=some x:=by
        rw [hcomp];exact c_J hf1 hxs (a_b.1 he)
       rw [b_P hf];have yE:=(y'.then (hx.then x58)).setB (b:=w.heap.size) (.inr (Nat.le_refl _)) [.string x.doc,.string x.name,.slice a0 l0 c0,.slice a5 l5 c5,.string nt,.slice a6 l6 c6,.bool nn,.slice a7 l7 c7] 70;refine ⟨trivial,_,rfl,RFld.keep yE.keep hv,fun v hv=>?_,yE⟩
       ·simp only [mc_,nn_,or_false] at hv;rcases hv with rfl|rfl|rfl|rfl|rfl|rfl|rfl|rfl<;>assumption
      ·rw [a_a h0 (by omega)];exact next h0 hlt ⟨hx.then x58,c_h h0 hf1 hxs (a_f.1 hne)⟩
     ·have hle:=odf hge;rw [tl_ (by omega)] at hf1;exact key22 _ _ _ _ _ _ _ _ _ _ _ _ _ _ _ _ _ (y'.then hx) (by rw [hcomp];exact hf1)
    ·have hnb':¬ (d.kind=a_V∨d.kind=b_i):=fun k=>by
      rw [hb33.2 k] at h;cases h
     rw [if_neg hnb'] at hcomp;exact key22 _ _ _ _ _ _ _ _ _ _ _ _ _ _ _ _ _ y' hcomp
   refine ⟨fun h=>key33 _ ?_,fun h=>key33 true ⟨fun _=>.inl (a_b.1 h),fun _=>rfl⟩⟩;have h1:=a_f.1 h;exact ⟨fun k=>.inr (a_b.1 k),fun k=>a_b.2 (k.resolve_left h1)⟩
 refine ⟨fun h=>?_,fun h=>key18 false _ z17 ⟨nofun,fun k=>absurd k.1 (a_f.1 h)⟩⟩;refine (b_5 _ _).mono ?_;rintro _ w61 ⟨b62,rfl,x61,hb62⟩;exact ⟨b62,rfl,⟨x61.keepT _,x61.keepT _,trivial⟩,key18 b62 w61 (z17.then x61) ⟨fun k=>⟨a_b.1 h,hb62.1 k⟩,fun k=>hb62.2 k.2⟩⟩
def downS (types:List Def)(u:BA)(k:Int)(n on:BA):BA:=if k=0 then a_n (b_K types u n).1.t else if on=E0 then u else on
mutual
def atS (types:List Def):BA->Sel->List (Sel × BA)
 | u,.mk k al n on args dirs kids=>(.mk k al n on args dirs kids,u)::atL types (downS types u k n on) kids
def atL (types:List Def):BA->List Sel->List (Sel × BA)
 | _,[]=>[]
 | u,s::l=>atS types u s++atL types u l
end
theorem h_M {α β:Type}(f:α->List β){xs:List α}{i:Int}{x:α}(h0:0<=i)(hx:xs[i.toNat]? =some x):(xs.take (i+1).toNat).flatMap f=(xs.take i.toNat).flatMap f++f x:=by
 rw [show (i+1).toNat=i.toNat+1 by omega,List.take_add_one,hx,List.flatMap_append];simp
theorem h_u (types:List Def)(u:BA):∀ a b:List Sel,atL types u (a++b)=atL types u a++atL types u b
 | [],b=>rfl
 | s::a,b=>by simp [atL,h_u types u a b]
theorem n_l (types:List Def)(u:BA){xs:List Sel}{i:Int}{x:Sel}(h0:0<=i)(hx:xs[i.toNat]? =some x):atL types u (xs.take (i+1).toNat)=atL types u (xs.take i.toNat)++atS types u x:=by
 rw [show (i+1).toNat=i.toNat+1 by omega,List.take_add_one,hx,h_u];simp [atL]
def atAll (types:List Def)(roots:List RootD)(ops:List OpD)(frags:List Frag):List (Sel × BA):=(ops.flatMap fun x=>atL types (rootD roots x.kind) x.kids)++frags.flatMap fun f=>atL types f.on f.kids
def selT (T:TypeId):Bool:=[67,30,51,63,70,101,103,105].any (Nat.beq T)
structure SSt (X:Nat->Prop) (w w':World):Prop where
 ext:Ext X w w'
 keep:Keep w w'
 kt:∀ T,selT T=true->KeepT T w w'
theorem SSt.of0 {X:Nat->Prop}{w':World}(h:EF w w'):SSt X w w':=⟨h.toM X,h.keep,fun _ _=>h.keepT _⟩
theorem SSt.refl {X:Nat->Prop}(w:World):SSt X w w:=.of0 (Ext.refl w)
theorem SSt.trans {X:Nat->Prop}{w1 w2:World}(h:SSt X w w1)(k:SSt X w1 w2):SSt X w w2:=⟨h.ext.trans k.ext fun _ _ e=>e,h.keep.trans k.keep,fun T hT b c fr ho=>k.kt T hT b c fr (h.kt T hT b c fr ho)⟩
structure CloB (B:List (Sel × BA)->Prop) (g:FuncId) (cap:List Value) (X:Nat->Prop) (P:List (Sel × BA)->World->Prop):Prop where
 fn:∃ fn,Tryz.prog.funcs[g]? =some fn/\(fn.name== "runtime.NumGoroutine" ||fn.body.isNone)=false
 st:∀ l w w',P l w->EF w w'->P l w'
 call:∀ l w s u cs,P l w->RSel w s cs->(∀ v∈cs,a_v v)->okSel s->u.size<=4194304->B (l++[(s,u)])->CP g ([Value.agg cs.toArray,Value.string u]++cap).toArray w fun e w'=>e=.returned (.tuple #[])/\SSt X w w'/\P (l++[(s,u)]) w'
abbrev Clo:FuncId->List Value->(Nat->Prop)->(List (Sel × BA)->World->Prop)->Prop:=CloB fun _=>True
section
variable {B:List (Sel × BA)->Prop} {k:Nat} {A4:OA} {L4 C4:Nat} {A:OA} {L C:Nat} {A3:OA} {L3 C3:Nat} {types:List Def} {g:FuncId} {cap:List Value} {X:Nat->Prop} {P:List (Sel × BA)->World->Prop}
abbrev k_M (B:List (Sel × BA)->Prop)(k:Nat)(A4:OA)(L4 C4:Nat)(A:OA)(L C:Nat)(A3:OA)(L3 C3:Nat)(types:List Def)(g:FuncId)(cap:List Value)(X:Nat->Prop)(P:List (Sel × BA)->World->Prop)(xs:List Sel):Prop:=
 ∀ (a:OA) (l c:Nat) (u:BA) (w:World) (pre:List (Sel × BA)),Blk w k 79 [.slice A4 L4 C4,.slice A L C,.slice A3 L3 C3]->RDefs w A4 L4 C4 types->RSels w a l c xs->a_z xs->u.size<=4194304->P pre w->B (pre++atL types u xs)->
  CP 104 #[.pointer (some (adr k)),.slice a l c,.string u,.func (.func g) #[] cap.toArray] w fun e w'=>e=.returned (.tuple #[])/\SSt X w w'/\P (pre++atL types u xs) w'
theorem f_Y (hm:∀ l m,B (l++m)->B l)(hk:¬ X k)(hg:CloB B g cap X P){xs:List Sel}(IH:∀ k' al n on args dirs kids,Sel.mk k' al n on args dirs kids∈xs->k_M B k A4 L4 C4 A L C A3 L3 C3 types g cap X P kids):k_M B k A4 L4 C4 A L C A3 L3 C3 types g cap X P xs:=by
 intro a l c u w pre hB hT hl hok hu hP hBB;obtain ⟨e1,e3⟩:=hl.len;obtain ⟨fn,hfn,hfb⟩:=hg.fn;refine j_H (some (adr k)) a l c u (.func (.func g) #[] cap.toArray) w _ ⟨fun i w1=>0<=i/\i<=l/\SSt X w w1/\P (pre++atL types u (xs.take i.toNat)) w1,fun i _=>((l:Int)-i).toNat,⟨by omega,by omega,SSt.refl w,by simpa [atL] using hP⟩,?_⟩;rintro i w1 ⟨h0,hi,hx,hP1⟩;refine ⟨fun hlt=>fun K9 hK9=>?_,fun hge=>?_⟩
 ·have hlt:=odt hlt;obtain ⟨p,x,hp,hxs,cs,hc,hv⟩:=(hl.keep hx.keep).get h0 hlt;have hmem:=mg_ hxs;have hokx:=b_9.1 hok x hmem;have htk:=n_l types u h0 hxs;have hBi:B (pre++atL types u (xs.take (i+1).toNat)):=hm _ (atL types u (xs.drop (i+1).toNat)) (by rw [List.append_assoc,<- h_u,List.take_append_drop];exact hBB);have key:∀ w',SSt X w1 w'->P (pre++atL types u (xs.take (i+1).toNat)) w'->K9 w':=by
   intro w' s' P';refine hK9 w' ?_;rw [a_a h0 (by omega)];exact next h0 hlt ⟨hx.trans s',P'⟩
  obtain ⟨k',al,n,on,args,dirs,kids⟩:=x;have IHk:=IH k' al n on args dirs kids hmem;have hv':=hv;obtain ⟨a1,l1,c1,a2,l2,c2,a3,l3,c3,rfl,hv1,hv2,hv3⟩:=c_w.1 hv';obtain ⟨⟨_,_,hc0⟩,hs0,⟨_,_,hc1⟩,hs1,⟨_,_,hc2⟩,hs2,⟨_,_,hc3⟩,hs3,⟨_,_,hc4⟩,hs4,⟨_,_,hc5⟩,hs5,⟨_,_,hc6⟩,hs6,-⟩:=hc;have hokx':=hokx;simp only [okSel] at hokx';obtain ⟨hk3,-, -, hkids,hk1,-⟩:=hokx';simp only [atS] at htk;rw [htk] at hBi;have x20:EF w1 (w1.alloc (.cells #[.int .i64 k',.string al,.string n,.string on,.slice a1 l1 c1,.slice a2 l2 c2,.slice a3 l3 c3] 67)):=(Ext.refl w1).alloc _;refine ⟨p,hp,⟨h0,hlt⟩,_,hc0.cell,_,hc1.cell,_,hc2.cell,_,hc3.cell,_,_,_,hc4.cell,_,_,_,hc5.cell,_,_,_,hc6.cell,trivial,trivial,g,cap,rfl,fn,hfn,hfb,?_⟩;refine (hg.call _ _ _ u _ (hg.st _ _ _ hP1 x20) (hv.keep x20.keep) (fun v hv=>?_) hokx hu (hm _ (atL types (downS types u k' n on) kids) (by simpa using hBi))).mono ?_
  ·simp only [mc_,nn_,or_false] at hv;rcases hv with rfl|rfl|rfl|rfl|rfl|rfl|rfl<;>assumption
  rintro _ w25 ⟨rfl,s25,P25⟩;have t25:SSt X w1 w25:=(SSt.of0 x20).trans s25;have v25:=hx.trans t25;have down:∀ w',EF w25 w'->∀ u',u'.size<=4194304->u'=downS types u k' n on->CP 104 #[.pointer (some (adr k)),.slice a3 l3 c3,.string u',.func (.func g) #[] cap.toArray] w' fun e w''=>e=.returned (.tuple #[])/\SSt X w' w''/\P (pre++atL types u (xs.take (i+1).toNat)) w'':=by
   intro w' x' u' hu' eu';have v':=v25.trans (SSt.of0 x');refine (IHk a3 l3 c3 u' w' _ (hB.ext v'.ext hk) (hT.keep v'.keep) (hv3.keep (t25.trans (SSt.of0 x')).keep) hkids hu' (hg.st _ _ _ P25 x') (by rw [eu'];simpa using hBi)).mono ?_;rintro _ w'' ⟨rfl,s'',P''⟩;refine ⟨rfl,s'',?_⟩;rw [htk,<- eu'];simpa using P''
  refine ⟨rfl,⟨s25.kt _ (by decide),trivial⟩,fun h0k=>?_,fun h0k=>?_⟩
  ·have h0k:k'=0:=by simpa using h0k
   refine (e_p hu hs2 (hB.ext v25.ext hk) (hT.keep v25.keep)).mono ?_;rintro _ w27 ⟨cs,rfl,⟨f0,fl0,fc0,f1,fl1,fc1,tn,f2,fl2,fc2,nn,f3,fl3,fc3,rfl,-, -, hty,-⟩,hsm,x27⟩;refine ⟨_,_,_,_,_,_,_,_,_,_,_,_,_,_,_,_,_,rfl,⟨x27.keepT _,trivial⟩,trivial,trivial,fun w39 e39=>?_⟩;have x39:EF w27 w39:=by rw [e39];exact ((Ext.refl w27).alloc _).drew
   refine (k_R (hsm (.string tn) (by simp)) (hty.keep x39.keep)).mono ?_;rintro _ w41 ⟨rfl,hsb,x41⟩;refine ⟨_,rfl,⟨x41.keepT _,x41.keepT _,trivial⟩,⟨rfl,trivial⟩,?_⟩;have x2541:=(x27.then x39).then x41;refine (down w41 x2541 _ hsb (by rw [downS,if_pos h0k])).mono ?_;rintro _ w44 ⟨rfl,s44,P44⟩;exact ⟨rfl,⟨s44.kt _ (by decide),s44.kt _ (by decide),trivial⟩,trivial,key w44 ((t25.trans (SSt.of0 x2541)).trans s44) P44⟩
  ·have h0k:k'≠0:=fun e=>by simp [e] at h0k
   refine ⟨fun h2=>⟨fun he=>?_,fun he=>?_⟩,fun h2=>?_⟩
   ·refine (down w25 (Ext.refl w25) on hs3 (by rw [downS,if_neg h0k,if_neg fun e=>by rw [e] at he;simp at he])).mono ?_;rintro _ w46 ⟨rfl,s46,P46⟩;exact ⟨rfl,⟨s46.kt _ (by decide),trivial⟩,key w46 (t25.trans s46) P46⟩
   ·have he:on=E0:=a_b.1 (by simpa using he);refine (down w25 (Ext.refl w25) u hu (by rw [downS,if_neg h0k,if_pos he])).mono ?_;rintro _ w48 ⟨rfl,s48,P48⟩;exact ⟨rfl,⟨s48.kt _ (by decide),trivial⟩,key w48 (t25.trans s48) P48⟩
   ·have h2:k'≠2:=fun e=>by simp [e] at h2
    have hkk:=(hk1 (by omega)).2;subst hkk;refine key w25 t25 ?_;rw [htk];simpa [atL] using P25
 ·have hle:=odf hge;rw [tl_ (by omega)] at hP1;exact ⟨rfl,hx,hP1⟩
theorem c_3 (hm:∀ l m,B (l++m)->B l)(hk:¬ X k)(hg:CloB B g cap X P):∀ (d:Nat) (xs:List Sel),SizeOf.sizeOf xs<d->k_M B k A4 L4 C4 A L C A3 L3 C3 types g cap X P xs
 | 0,_,h=>by omega
 | d+1,xs,h=>f_Y hm hk hg fun k' al n on args dirs kids hi=>c_3 hm hk hg d kids (by
   have:=List.sizeOf_lt_of_mem hi;simp only [Sel.mk.sizeOf_spec] at this;omega)
theorem f_f (hm:∀ l m,B (l++m)->B l)(hk:¬ X k)(hg:CloB B g cap X P)(xs:List Sel):k_M B k A4 L4 C4 A L C A3 L3 C3 types g cap X P xs:=c_3 hm hk hg _ xs (Nat.lt_succ_self _)
theorem l_U {roots:List RootD}(hR:b_w w A L C roots)(op:BA):(rootD roots op).size<=4194304:=by
 unfold rootD;split
 ·rename_i r hr;obtain ⟨j,hj⟩:=List.mem_iff_getElem?.1 (List.mem_of_find?_eq_some hr);obtain ⟨p,-, cs,hc,rfl⟩:=hR.2.2.2 j r hj;exact hc.2.2.2.1
 ·decide
theorem j_4 (hk:¬ X k)(hg:Clo g cap X P){roots:List RootD}{ops:List OpD}(hB:Blk w k 79 [.slice A4 L4 C4,.slice A L C,.slice A3 L3 C3])(hT:RDefs w A4 L4 C4 types)(hR:b_w w A L C roots)(hl:ROps w a l c ops)(hl':a_X w a' l' c' frags)(ok1:∀ x∈ops,okOp x)(ok2:∀ x∈frags,b_j x)(hP:P [] w):
  CP 51 #[.pointer (some (adr k)),.agg #[.slice a l c,.slice a' l' c'],.func (.func g) #[] cap.toArray] w fun e w'=>e=.returned (.tuple #[])/\SSt X w w'/\P (atAll types roots ops frags) w':=by
 obtain ⟨e1,e3⟩:=hl.len;obtain ⟨e1',e3'⟩:=hl'.len;have hx0:EF w (w.alloc (.cells #[.slice a l c,.slice a' l' c'] 30)):=(Ext.refl w).alloc _;refine k_r (some (adr k)) a l c a' l' c' (.func (.func g) #[] cap.toArray) w _ ⟨trivial,fun i w1=>0<=i/\i<=l/\SSt X w w1/\P ((ops.take i.toNat).flatMap fun x=>atL types (rootD roots x.kind) x.kids) w1,fun i _=>((l:Int)-i).toNat,⟨by omega,by omega,SSt.of0 hx0,hg.st _ _ _ hP hx0⟩,?_⟩;rintro i w1 ⟨h0,hi,hx,hP1⟩;refine ⟨fun hlt=>?_,fun hge=>?_⟩
 ·have hlt:=odt hlt;obtain ⟨p,x,hp,hxs,cs,hc,a1,l1,c1,a2,l2,c2,a3,l3,c3,rfl,hv1,hv2,hv3⟩:=(hl.keep hx.keep).get h0 hlt;obtain ⟨⟨_,_,hc0⟩,hs0,⟨_,_,hc1⟩,hs1,⟨_,_,hc2⟩,hs2,⟨_,_,hc3⟩,hs3,⟨_,_,hc4⟩,-⟩:=hc;have hmem:=mg_ hxs;refine ⟨p,hp,⟨h0,hlt⟩,_,hc0.cell,_,hc1.cell,_,_,_,hc2.cell,_,_,_,hc3.cell,_,_,_,hc4.cell,trivial,trivial,fun w18 e18=>?_⟩;have x18:EF w1 w18:=by rw [e18];exact ((Ext.refl w1).alloc _).drew
  have v18:=hx.trans (SSt.of0 x18);refine (a_m (p:=adr k) (op:=x.kind) ((hB.ext v18.ext hk).at (j:=1) rfl) (hR.keep v18.keep)).mono ?_;rintro _ w20 ⟨rfl,x20⟩;have x1820:=x18.then x20;have v20:=hx.trans (SSt.of0 x1820);refine ⟨_,rfl,⟨x20.keepT _,x20.keepT _,trivial⟩,⟨rfl,trivial⟩,?_⟩;refine (f_f (fun _ _ _=>trivial) hk hg x.kids a3 l3 c3 _ w20 _ (hB.ext v20.ext hk) (hT.keep v20.keep) (hv3.keep x1820.keep) (ok1 x hmem).2.2.2 (l_U hR x.kind) (hg.st _ _ _ hP1 x1820) trivial).mono ?_;rintro _ w23 ⟨rfl,s23,P23⟩;refine ⟨rfl,⟨s23.kt _ (by decide),s23.kt _ (by decide),trivial⟩,trivial,?_⟩;rw [a_a h0 (by omega)];refine next h0 hlt ⟨v20.trans s23,?_⟩
  rw [h_M (fun x:OpD=>atL types (rootD roots x.kind) x.kids) h0 hxs];exact P23
 ·have hle:=odf hge;rw [tl_ (by omega)] at hP1;refine ⟨fun i w1=>0<=i/\i<=l'/\SSt X w w1/\P ((ops.flatMap fun x=>atL types (rootD roots x.kind) x.kids)++(frags.take i.toNat).flatMap fun f=>atL types f.on f.kids) w1,fun i _=>((l':Int)-i).toNat,⟨by omega,by omega,hx,by simpa using hP1⟩,?_⟩;clear hP1 hx hle hge h0 hi;rintro i w1 ⟨h0,hi,hx,hP1⟩;refine ⟨fun hlt=>?_,fun hge=>?_⟩
  ·have hlt:=odt hlt;obtain ⟨p,x,hp,hxs,cs,hc,a2,l2,c2,a3,l3,c3,rfl,hv2,hv3⟩:=(hl'.keep hx.keep).get h0 hlt;obtain ⟨⟨_,_,hc0⟩,hs0,⟨_,_,hc1⟩,hs1,⟨_,_,hc2⟩,hs2,⟨_,_,hc3⟩,-⟩:=hc;have hmem:=mg_ hxs;refine ⟨p,hp,⟨h0,hlt⟩,_,hc0.cell,_,hc1.cell,_,_,_,hc2.cell,_,_,_,hc3.cell,trivial,trivial,?_⟩;have x34:EF w1 (w1.alloc (.cells #[.string x.name,.string x.on,.slice a2 l2 c2,.slice a3 l3 c3] 63)):=(Ext.refl w1).alloc _;have v34:=hx.trans (SSt.of0 x34);refine (f_f (fun _ _ _=>trivial) hk hg x.kids a3 l3 c3 x.on _ _ (hB.ext v34.ext hk) (hT.keep v34.keep) (hv3.keep x34.keep) (ok2 x hmem).2.1 hs1 (hg.st _ _ _ hP1 x34) trivial).mono ?_;rintro _ w36 ⟨rfl,s36,P36⟩;refine ⟨rfl,⟨s36.kt _ (by decide),s36.kt _ (by decide),trivial⟩,?_⟩;rw [a_a h0 (by omega)];refine next h0 hlt ⟨v34.trans s36,?_⟩
   rw [h_M (fun f:Frag=>atL types f.on f.kids) h0 hxs,<- List.append_assoc];exact P36
  ·have hle:=odf hge;rw [tl_ (by omega)] at hP1;exact ⟨rfl,hx,hP1⟩
end
end Go.VC
