/- Part of the proof of a law of a rule over documents (SpecE), where what the arguments hold is of bulk at most 1048576. -/
import Derived.Test.YtmnhdjhlcgfpkaaGreatTextF
import Derived.Test.YtmnhdjhlcgfpkaaGreatSpecD
set_option linter.unusedVariables false
set_option linter.unusedSectionVars false
namespace Go.VC
open Go Go.Proofs
variable [DB]
variable {f:Frag}{O:List BA}{frags:List Frag}
def restF (O:List BA)(f:Frag):Nat:=bif O.any fun u=>decide (u=f.name) then 0 else (spL f.kids).length
def restN (frags:List Frag)(O:List BA):Nat:=(frags.map (restF O)).sum
theorem l_c (h:f.name∈O):restF O f=0:=by
 have:(O.any fun u=>decide (u=f.name))=true:=List.any_eq_true.2 ⟨_,h,by simp⟩;rw [restF,this];rfl
theorem g_H (h:f.name∉O):restF O f=(spL f.kids).length:=by
 have:(O.any fun u=>decide (u=f.name))=false:=List.any_eq_false.2 fun u hu=>by
  simp only [decide_eq_true_eq];exact fun e=>h (e▸hu)
 rw [restF,this];rfl
theorem l_d (O:List BA)(u:BA)(f:Frag):restF (O++[u]) f<=restF O f:=by
 by_cases h:f.name∈O++[u]
 ·rw [l_c h];omega
 ·rw [g_H h,g_H fun h'=>h (ma_.2 (.inl h'))];omega
theorem n_G (hf:f∈frags)(hn:f.name∉O):restN frags (O++[f.name])+(spL f.kids).length<=restN frags O:=by
 have h1:∀ xs:List Frag,(xs.map (restF (O++[f.name]))).sum<=(xs.map (restF O)).sum:=fun xs=>c_0 fun x _=>l_d O f.name x;have h2:∀ xs:List Frag,f∈xs->(xs.map (restF (O++[f.name]))).sum+(spL f.kids).length<=(xs.map (restF O)).sum:=by
  intro xs;induction xs with
  | nil=>intro h;simp at h
  | cons x xs ih=>
   intro h;simp only [List.map_cons,List.sum_cons];rcases mc_.1 h with rfl|h
   ·have:=h1 xs;rw [l_c (by simp),g_H hn];omega
   ·have:=ih h;have:=l_d O f.name x;omega
 exact h2 frags hf
theorem n_F (frags:List Frag):restN frags []=(frags.map fun f=>(spL f.kids).length).sum:=rfl
theorem k_3 {fs:List Frag}{n:BA}:isFr fs n=true↔∃ f,a_h Frag.name fs n=some f:=Option.isSome_iff_exists
theorem l_6 {a:OA}{l c:Nat}{a':OA}{l' c':Nat}{ak:OA}{lk ck:Nat}{ks:List Sel}{w:World}(hl':a_X w a' l' c' frags)(hk:RSels w ak lk ck ks)(okk:a_z ks)(okf:∀ f∈frags,b_j f)
  (hs0:(spL ks).length<=2097152) (hs:(frags.map fun f=>(spL f.kids).length).sum<=2097152):
  CP 102 #[.agg #[.slice a l c,.slice a' l' c'],.slice ak lk ck] w fun e w'=>∃ A L C xs,e=.returned (.slice A L C)/\EF w w'/\Qs w.heap.size w' A L C xs/\(∀ n,n∈xs↔Rch frags ks n)/\xs.length<=frags.length/\xs.Nodup:=by
 have x4:EF w (w.alloc (.cells #[.slice a l c,.slice a' l' c'] 30)):=(Ext.refl w).alloc _;have hfl:=hl'.len;refine m_R a l c a' l' c' ak lk ck w _ ⟨trivial,?_⟩;refine (e_v ks ak lk ck _ (RSels.keep x4.keep hk) okk (by omega)).mono ?_;rintro _ w6 ⟨A7,L7,C7,rfl,x6,hL7,cells7,o7,f7⟩;have y6:=x4.then x6;have hw4:=x4.size;have q7:Qs w.heap.size w6 A7 L7 C7 (spL ks):=by
  obtain ⟨h1,h2,h3,h4|⟨g,off,cs,h4,h5,h6⟩⟩:=Qs.own o7 f7
  ·exact ⟨h1,h2,h3,.inl h4⟩
  ·exact ⟨h1,h2,h3,.inr ⟨g,off,cs,h4,lt_ hw4 h5,h6⟩⟩
 obtain ⟨M,hM⟩:∃ M,M=(spL ks).length+(frags.map fun f=>(spL f.kids).length).sum:=⟨_,rfl⟩;refine ⟨A7,L7,C7,rfl,⟨x6.keepT _,trivial⟩,fun oa ol oc wa wl wc w1=>EF w w1/\∃ O W:List BA,Qs w.heap.size w1 oa ol oc O/\Qs w.heap.size w1 wa wl wc W/\(∀ b,blkOf oa b->¬ blkOf wa b)/\O.Nodup/\(∀ n∈O,n∈frags.map Frag.name)/\(∀ n∈O,Rch frags ks n)/\(∀ n∈W,isFr frags n=true->Rch frags ks n)/\
   (∀ n∈spL ks,isFr frags n=true->n∈O∨n∈W)/\(∀ m∈O,∀ f,a_h Frag.name frags m=some f->∀ n∈spL f.kids,isFr frags n=true->n∈O∨n∈W)/\W.length+restN frags O<=M,
  fun _ ol _ _ wl _ _=>(frags.length-ol)*(M+1)+wl,⟨y6,[],spL ks,Qs.nil _ _,q7,fun b h=>(by obtain ⟨p,h,-⟩:=h;cases h),List.nodup_nil,by simp,by simp,fun n hn hi=>.base hn hi,fun n hn _=>.inr hn,by simp,by rw [n_F,hM];exact Nat.le_refl _⟩,?_⟩
 rintro oa ol oc wa wl wc w1 ⟨hx,O,W,qO,qW,hap,hnd,hsub,hO,hW,hc1,hc2,hbd⟩;have hol:=qO.1;have hwl:=qW.1;have hlen:O.length<=frags.length:=by
  have:=c_K hnd hsub;simpa using this
 refine ⟨fun hgt=>?_,fun hle=>?_⟩
 ·have hgt:=odt hgt;cases W with
  | nil=>simp at hwl;omega
  | cons n W=>
  obtain ⟨p,hp,hcell⟩:=qW.get (j:=0) rfl;have hsn:=qW.2.2.1 n (by simp);have hwc:=qW.2.1;obtain ⟨qT,hTb⟩:=qW.tail;refine ⟨p,hp,⟨by omega,hgt⟩,n,hcell,⟨by omega,by omega,by omega⟩,?_⟩;refine (n_R n hx hl').mono ?_;rintro _ w16 ⟨s17,s18,a19,l19,c19,a20,l20,c20,b21,rfl,x16,hb,hbt,hbf⟩;have x23:EF w1 (w16.alloc (.cells #[.string s17,.string s18,.slice a19 l19 c19,.slice a20 l20 c20] 70)):=x16.alloc _;refine ⟨s17,s18,a19,l19,c19,a20,l20,c20,b21,rfl,⟨x16.keepT _,trivial⟩,trivial,trivial,fun K24 hK24=>?_⟩;have hbi:b21=true↔isFr frags n=true:=⟨fun h=>by
   obtain ⟨f,hf,-⟩:=hbt h;exact k_3.2 ⟨f,hf⟩,fun h=>by
   cases b21 with
   | true=>rfl
   | false=>
    obtain ⟨f,hf⟩:=k_3.1 h;rw [(hbf rfl).1] at hf;cases hf⟩
  have hz1:=hx.size;have key:∀ (b:Bool) (w26:World),EF w1 w26->(b=true↔b21=true/\n∉O)->K24 b w26:=by
   intro b w26 x26 hbb;refine hK24 b w26 ⟨fun h=>?_,fun h=>?_⟩
   ·obtain ⟨h21,hnO⟩:=hbb.1 h;obtain ⟨f,hf,-, -, -, hfk⟩:=hbt h21;obtain ⟨hfm,hfn⟩:=a_U hf;have x27:EF w26 (w26.alloc (.cells #[.string n] 9)):=(Ext.refl w26).alloc _;have z26:=x26.size;have z27:=x27.size;have q27:=(qO.keep x26 fun _ _=>id).keep x27 fun _ _=>id;have hfb:O.length+1<=frags.length:=by
     have:(n::O).length<=(frags.map Frag.name).length:=c_K (List.nodup_cons.2 ⟨hnO,hnd⟩) fun u hu=>(mc_.1 hu).elim (fun e=>e▸mm_.2 ⟨f,hfm,hfn⟩) (hsub u);simpa using this
    obtain ⟨A28,C28,w29,r29,q28,x29,k29,hb28⟩:=q27.more (lt_ (lt_ hz1 z26) z27) (Qs.one w26 hsn) (by omega);have y29:EF w w29:=((hx.then x26).then x27).trans x29 fun b hb' hbl=>by
     have:=(q27.base b hbl).1;omega
    have z29:=x29.size;have qT29:=((qT.keep x26 fun _ _=>id).keep x27 fun _ _=>id).keep x29 fun b hb hob=>hap b hob (hTb b hb);have hsp:(spL f.kids).length<=(frags.map fun f=>(spL f.kids).length).sum:=j_s (fun f:Frag=>(spL f.kids).length) hfm;refine ⟨trivial,A28,ol+1,C28,w29,r29,⟨k29 _ (by decide),k29 _ (by decide),trivial⟩,?_⟩;refine (e_v f.kids a20 l20 c20 w29 (RSels.keep y29.keep hfk) (okf f hfm).2.1 (by omega)).mono ?_;rintro _ w31 ⟨A32,L32,C32,rfl,x31,hL32,cells32,o32,f32⟩;refine ⟨A32,L32,C32,rfl,⟨x31.keepT _,x31.keepT _,trivial⟩,?_⟩;have qS:=Qs.own o32 f32;have qT31:=qT29.keep x31 fun _ _=>id;have z31:=x31.size;have y31:=y29.then x31;have hWl:W.length+1<=M:=by
     simp only [List.length_cons] at hbd;omega
    simp only [List.length_cons] at hwl;obtain ⟨A33,C33,w34,r34,q34,x34,k34,hb34⟩:=qT31.more (by omega) qS (by omega);have y34:EF w w34:=y31.trans x34 fun b hb' hbl=>by
     have:=(qT31.base b hbl).1;omega
    have q28':=(q28.keep x31 fun _ _=>id).keep x34 fun b hbA hbT=>by
     have h1:=hTb b hbT;rcases hb28 b hbA with h2|h2
     ·exact hap b h2 h1
     ·have:=(qW.base b h1).2;omega
    have hput:=n_G hfm (by rw [hfn];exact hnO);rw [hfn] at hput;have hRn:=hW n (by simp) (hbi.1 h21);refine ⟨A33,(wl-1)+L32,C33,w34,r34,⟨k34 _ (by decide),k34 _ (by decide),trivial⟩,⟨y34,O++[n],W++spL f.kids,q28',q34,fun b hbA hbW=>?_,e_Z.2 ⟨hnd,hnO⟩,fun u hu=>?_,fun u hu=>?_,fun u hu hi=>?_,fun u hu hi=>?_,fun m hm f' hf' u hu hi=>?_,?_⟩,?_⟩
    ·rcases hb34 b hbW with h1|h1
     ·have h1:=hTb b h1;rcases hb28 b hbA with h2|h2
      ·exact hap b h2 h1
      ·have:=(qW.base b h1).2;omega
     ·have:=(q28.base b hbA).2;omega
    ·rcases ma_.1 hu with hu|hu
     ·exact hsub u hu
     ·rw [List.mem_singleton.1 hu];exact mm_.2 ⟨f,hfm,hfn⟩
    ·rcases ma_.1 hu with hu|hu
     ·exact hO u hu
     ·rw [List.mem_singleton.1 hu];exact hRn
    ·rcases ma_.1 hu with hu|hu
     ·exact hW u (List.mem_cons_of_mem _ hu) hi
     ·exact .step hRn hf hu hi
    ·rcases hc1 u hu hi with h|h
     ·exact .inl (ma_.2 (.inl h))
     ·rcases mc_.1 h with rfl|h
      ·exact .inl (by simp)
      ·exact .inr (ma_.2 (.inl h))
    ·rcases ma_.1 hm with hm|hm
     ·rcases hc2 m hm f' hf' u hu hi with h|h
      ·exact .inl (ma_.2 (.inl h))
      ·rcases mc_.1 h with rfl|h
       ·exact .inl (by simp)
       ·exact .inr (ma_.2 (.inl h))
     ·rw [List.mem_singleton.1 hm,hf] at hf';obtain rfl:f=f':=Option.some.inj hf';exact .inr (ma_.2 (.inr hu))
    ·simp only [List.length_cons] at hbd;rw [la_];omega
    ·have e1:frags.length-ol=(frags.length-(ol+1))+1:=by omega
     have e2:(frags.length-ol)*(M+1)=(frags.length-(ol+1))*(M+1)+(M+1):=by rw [e1,Nat.add_mul,Nat.one_mul]
     simp only [List.length_cons] at hbd;show (frags.length-(ol+1))*(M+1)+((wl-1)+L32)<(frags.length-ol)*(M+1)+wl;omega
   ·have hno:isFr frags n=true->n∈O:=fun hi=>by
     by_cases hn:n∈O
     ·exact hn
     ·rw [hbb.2 ⟨hbi.2 hi,hn⟩] at h;cases h
    refine ⟨⟨hx.then x26,O,W,qO.keep x26 fun _ _=>id,qT.keep x26 fun _ _=>id,fun b hbA hbW=>hap b hbA (hTb b hbW),hnd,hsub,hO,fun u hu=>hW u (List.mem_cons_of_mem _ hu),fun u hu hi=>?_,fun m hm f' hf' u hu hi=>?_,?_⟩,?_⟩
    ·rcases hc1 u hu hi with h|h
     ·exact .inl h
     ·rcases mc_.1 h with rfl|h
      ·exact .inl (hno hi)
      ·exact .inr h
    ·rcases hc2 m hm f' hf' u hu hi with h|h
     ·exact .inl h
     ·rcases mc_.1 h with rfl|h
      ·exact .inl (hno hi)
      ·exact .inr h
    ·simp only [List.length_cons] at hbd;omega
    ·show (frags.length-ol)*(M+1)+(wl-1)<(frags.length-ol)*(M+1)+wl;omega
  refine ⟨fun h21=>?_,fun h21=>key false _ x23 ⟨nofun,fun h=>by rw [h.1] at h21;cases h21⟩⟩;refine (c_in n ((qO.keep x23 fun _ _=>id).sl (by omega))).mono ?_;rintro _ w36 ⟨b37,rfl,x36,hb37⟩;refine ⟨b37,rfl,⟨x36.keepT _,x36.keepT _,trivial⟩,key _ w36 (x23.then x36) ⟨fun h=>⟨h21,fun hn=>by rw [hb37.2 hn] at h;cases h⟩,fun h=>?_⟩⟩;cases b37 with
  | false=>rfl
  | true=>exact absurd (hb37.1 rfl) h.2
 ·have hle:=odf hle;have hW0:W=[]:=List.length_eq_zero_iff.1 (by omega);subst hW0;refine ⟨oa,ol,oc,O,rfl,hx,qO,fun n=>⟨hO n,fun h=>?_⟩,hlen,hnd⟩;induction h with
  | base h1 h2=>exact (hc1 _ h1 h2).resolve_right (by simp)
  | step _ hf h1 h2 ih=>exact (hc2 _ ih _ hf _ h1 h2).resolve_right (by simp)
theorem j_2 {a:OA}{l c:Nat}{a':OA}{l' c':Nat}{w:World}(hl':a_X w a' l' c' frags)(okf:∀ f∈frags,b_j f)(h12:frags.length<=12)(hs:(frags.map fun f=>(spL f.kids).length).sum<=2097152):
  CP 37 #[.agg #[.slice a l c,.slice a' l' c']] w (RetB w fun b=>b=true↔∃ f∈frags,Rch frags f.kids f.name):=by
 obtain ⟨e1,e3⟩:=hl'.len;have hx0:=(Ext.refl (X:=fun _=>False) w).alloc (.cells #[.slice a l c,.slice a' l' c'] 30);refine k_q a l c a' l' c' w _ ⟨trivial,fun i w1=>0<=i/\i<=l'/\EF w w1/\∀ f∈frags.take i.toNat,¬ Rch frags f.kids f.name,fun i _=>((l':Int)-i).toNat,⟨by omega,by omega,hx0,by simp⟩,?_⟩;rintro i w1 ⟨h0,hi,hx,hn⟩;refine ⟨fun hlt=>?_,fun hge=>?_⟩
 ·have hlt:=odt hlt;obtain ⟨p,x,hp,hxs,cs,hc,a2,l2,c2,a3,l3,c3,rfl,hv2,hv3⟩:=hl'.get h0 hlt;obtain ⟨⟨_,_,hc0⟩,hs0,⟨_,_,hc1⟩,hs1,⟨_,_,hc2⟩,hs2,⟨_,_,hc3⟩,-⟩:=hc;have hmem:=mg_ hxs;have hx14:=hx.alloc (.cells #[.string x.name,.string x.on,.slice a2 l2 c2,.slice a3 l3 c3] 70);refine ⟨p,hp,⟨h0,hlt⟩,_,hx.cell hc0 id,_,hx.cell hc1 id,_,_,_,hx.cell hc2 id,_,_,_,hx.cell hc3 id,trivial,trivial,fun w15 e15=>?_⟩;have hx15:EF w w15:=by rw [e15];exact hx14.drew
  have hsp:(spL x.kids).length<=(frags.map fun f=>(spL f.kids).length).sum:=j_s (fun f:Frag=>(spL f.kids).length) hmem;refine (l_6 (hl'.keep hx15.keep) (RSels.keep hx15.keep hv3) (okf x hmem).2.1 okf (by omega) hs).mono ?_;rintro _ w17 ⟨A,L,C,xs,rfl,x17,q17,hxs17,hlen,-⟩;have hL:=q17.1;refine ⟨A,L,C,rfl,⟨x17.keepT _,x17.keepT _,trivial⟩,⟨rfl,trivial⟩,?_⟩;refine (c_in x.name (q17.sl (by omega))).mono ?_;rintro _ w20 ⟨b,rfl,x20,hb⟩;have y20:=(hx15.then x17).then x20;refine ⟨b,rfl,⟨x20.keepT _,x20.keepT _,trivial⟩,trivial,fun h=>⟨true,rfl,y20,fun _=>⟨x,hmem,(hxs17 _).1 (hb.1 h)⟩,fun _=>rfl⟩,fun h=>?_⟩;rw [a_a h0 (by omega)];refine next h0 hlt ⟨y20,a_g h0 hn hxs fun hr=>?_⟩
  rw [hb.2 ((hxs17 _).2 hr)] at h;cases h
 ·have hall:=a_o e1 hge hn;exact ⟨false,rfl,hx,nofun,fun ⟨f,hf,hr⟩=>absurd hr (hall f hf)⟩
structure SoundD (types:List Def) (roots:List RootD) (ops:List OpD) (frags:List Frag):Prop where
 ty:∀ n,n∈c_H ops frags∨n∈b_a ops->(findD types n).2=true
 co:∀ n∈c_H ops frags,c_R (findD types n).1.kind
 inp:∀ n∈b_a ops,i_s (findD types n).1.kind
 rt:∀ x∈ops,rootD roots x.kind≠E0
 fr:(frags.map Frag.name).Nodup
 sp:∀ n∈spAll ops frags,isFr frags n=true
 ac:∀ f∈frags,¬ Rch frags f.kids f.name
theorem o_e {fs:List Frag}{n:BA}(h:∃ f∈fs,f.name=n):isFr fs n=true:=by
 obtain ⟨f,hf,rfl⟩:=h;exact List.find?_isSome.2 ⟨f,hf,by simp⟩
theorem i_R:∀ l:List Sel,(spL l).length<=selL l
 | []=>Nat.le_refl _
 | .mk k al n on args dirs kids::l=>by
  have h1:=i_R kids;have h2:=i_R l;simp only [spL,spS,selL,selS,la_];split
  ·simp only [List.length_cons,List.length_nil];omega
  ·omega
theorem n_K (ops:List OpD)(frags:List Frag):spTot ops frags<=e_O ops frags:=Nat.add_le_add (c_0 fun _ _=>i_R _) (c_0 fun _ _=>i_R _)
end Go.VC
