/- Part of the proof of a law of a rule over documents (SpecD), where what the arguments hold is of bulk at most 1048576. -/
import Derived.Test.YtmnhdjhlcgfpkaaGreatTextF
import Derived.Test.YtmnhdjhlcgfpkaaGreatMakeC
import Derived.ArgAppend
set_option linter.unusedVariables false
set_option linter.unusedSectionVars false
namespace Go.VC
open Go Go.Proofs
variable [DB]
variable {α:Type}{x:BA}{frags:List Frag}{ops:List OpD}{c' l':Nat}{a':OA}
def nz (l:List BA):List BA:=l.filter fun s=> !decide (s=E0)
theorem m_y (l:List BA):nz (l++[E0])=nz l:=by
 have:([E0].filter fun s=> !decide (s=E0))=[]:=by simp
 rw [nz,List.filter_append,this,List.append_nil];rfl
theorem m_x {l:List BA}(h:x≠E0):nz (l++[x])=nz l++[x]:=by
 have:([x].filter fun s=> !decide (s=E0))=[x]:=by simp [h]
 rw [nz,List.filter_append,this];rfl
theorem n_V {l:List BA}:x∈nz l↔x∈l/\x≠E0:=by simp [nz,List.mem_filter]
theorem o_p {l:List BA}{k:Nat}(h:(nz l).Nodup):(nz (l.take k)).Nodup:=h.sublist ((List.take_sublist k l).filter _)
theorem c_M {xs:List α}{i:Int}{x:α}(h0:0<=i)(hx:xs[i.toNat]? =some x):xs.take (i+1).toNat=xs.take i.toNat++[x]:=by
 rw [show (i+1).toNat=i.toNat+1 by omega,List.take_add_one,hx];rfl
theorem SlL.take {w:World}{T n:Nat}{R:α->List Value->Prop}{a:OA}{l c:Nat}{xs:List α}(h:SlL w T n R a l c xs){i:Nat}(hi:i<=l):SlL w T n R a i c (xs.take i):=by
 obtain ⟨h1,h2,h3,h4⟩:=h;refine ⟨?_,by omega,by omega,fun j x hx=>h4 j x ?_⟩
 ·rw [List.length_take];omega
 ·rw [List.getElem?_take] at hx;split at hx
  ·exact hx
  ·cases hx
theorem l_X (a:OA)(c:Nat):(if c=(0:Int).toNat then a else Option.map (·.add ((0:Int).toNat*1)) a)=a:=by
 split
 ·rfl
 ·cases a with
  | none=>rfl
  | some a=>rfl
theorem o_b {a:OA}{l c:Nat}{xs:List BA}{w:World}(hl:RStrs w a l c xs):
  CP 73 #[.slice a l c] w (RetB w fun b=>b=true↔¬ (nz xs).Nodup):=by
 obtain ⟨e1,e3⟩:=hl.len;have hlc:l<=c:=hl.2.1;refine o_C a l c w _ ⟨fun i w1=>0<=i/\i<=l/\EF w w1/\(nz (xs.take i.toNat)).Nodup,fun i _=>((l:Int)-i).toNat,⟨by omega,by omega,Ext.refl w,by simp [nz]⟩,?_⟩;rintro i w1 ⟨h0,hi,hx,hn⟩;refine ⟨fun hlt=>?_,fun hge=>?_⟩
 ·have hlt:=odt hlt;obtain ⟨p,x,hp,hxs,cs,hc,rfl⟩:=hl.get h0 hlt;refine ⟨p,hp,⟨h0,hlt⟩,x,hx.cell hc.1.choose_spec.2 id,fun K hK=>?_⟩;have key:∀ (z:Bool) w',EF w1 w'->(z=true↔x≠E0/\x∈xs.take i.toNat)->K z w':=by
   intro z w' hx' hz;refine hK z w' ⟨fun h=>⟨true,rfl,hx.then hx',fun _ hnd=>?_,fun _=>rfl⟩,fun h=>?_⟩
   ·obtain ⟨hne,hm⟩:=hz.1 h;have:=o_p (k:=(i+1).toNat) hnd;rw [c_M h0 hxs,m_x hne,e_Z] at this;exact this.2 (n_V.2 ⟨hm,hne⟩)
   ·rw [a_a h0 (by omega)];refine next h0 hlt ⟨hx.then hx',?_⟩
    rw [c_M h0 hxs];by_cases he:x=E0
    ·rw [he,m_y];exact hn
    ·rw [m_x he,e_Z];refine ⟨hn,fun hm=>?_⟩;rw [hz.2 ⟨he,(n_V.1 hm).1⟩] at h;cases h
  refine ⟨fun hne=>⟨⟨by omega,h0,by omega⟩,?_⟩,fun he=>key false w1 (Ext.refl w1) ⟨nofun,fun h=>absurd (b_2 he) h.1⟩⟩;rw [l_X];have hne:=g_r hne;have ht:RStrs w1 a (i.toNat-(0:Int).toNat) (c-(0:Int).toNat) (xs.take i.toNat):=SlL.take (T:=9) (n:=1) (R:=fun s cs=>cs=[.string s]) (hl.keep hx.keep) (i:=i.toNat) (by omega);refine (c_in x ht).mono ?_;rintro _ w' ⟨b,rfl,hx',hb⟩;exact ⟨b,rfl,trivial,key b w' hx' (hb.trans ⟨fun h=>⟨hne,h⟩,fun h=>h.2⟩)⟩
 ·have hle:=odf hge;rw [tl_ (by omega)] at hn;exact ⟨false,rfl,hx,nofun,fun h=>absurd hn h⟩
abbrev k_K (xs:List Sel):Prop:=∀ (a:OA) (l c:Nat) (w:World),RSels w a l c xs->a_z xs->selL xs<=2097152->
 CP 171 #[.slice a l c] w fun e w'=>∃ A L C,e=.returned (.slice A L C)/\EF w w'/\L=(condL xs).length/\∃ cells,Own w.heap.size w' 9 1 A L C cells/\Flat 1 RS (condL xs) cells
def c_H (ops:List OpD)(frags:List Frag):List BA:=(frags.flatMap fun x=>x.on::condL x.kids)++ops.flatMap fun x=>condL x.kids
theorem b_V (f:α->List BA)(xs:List α)(j:Nat):((xs.take j).flatMap f).length<=(xs.flatMap f).length:=by
 have:xs.flatMap f=(xs.take j).flatMap f++(xs.drop j).flatMap f:=by rw [<- List.flatMap_append,List.take_append_drop]
 rw [this,la_];omega
theorem d_i (f:α->List BA){xs:List α}{i:Int}{x:α}(h0:0<=i)(hx:xs[i.toNat]? =some x):(xs.take (i+1).toNat).flatMap f=(xs.take i.toNat).flatMap f++f x:=by
 rw [c_M h0 hx,List.flatMap_append];simp
theorem j_s (f:α->Nat){x:α}:∀ {l:List α},x∈l->f x<=(l.map f).sum
 | y::l,h=>by
  simp only [List.map_cons,List.sum_cons];rcases mc_.1 h with rfl|h
  ·omega
  ·have:=j_s f h;omega
def vtO (x:OpD):List BA:=x.vars.map fun v=>a_n v.t
def b_a (ops:List OpD):List BA:=ops.flatMap vtO
theorem h_X:∀ a b:List Sel,spL (a++b)=spL a++spL b
 | [],b=>rfl
 | s::a,b=>by simp [spL,h_X a b]
theorem k_E (xs:List Sel)(j:Nat):(spL (xs.take j)).length<=(spL xs).length:=by
 have:spL xs=spL (xs.take j)++spL (xs.drop j):=by rw [<- h_X,List.take_append_drop]
 rw [this,la_];omega
abbrev SpsOf (xs:List Sel):Prop:=∀ (a:OA) (l c:Nat) (w:World),RSels w a l c xs->a_z xs->(spL xs).length<=2097152->
 CP 157 #[.slice a l c] w fun e w'=>∃ A L C,e=.returned (.slice A L C)/\EF w w'/\L=(spL xs).length/\∃ cells,Own w.heap.size w' 9 1 A L C cells/\Flat 1 RS (spL xs) cells
theorem j_g {xs:List Sel}(IH:∀ k al n on args dirs kids,Sel.mk k al n on args dirs kids∈xs->SpsOf kids):SpsOf xs:=by
 intro a l c w hl hok hfew;obtain ⟨e1,e3⟩:=hl.len;refine m_W a l c w _ ⟨fun A L C i w1=>0<=i/\i<=l/\EF w w1/\L=(spL (xs.take i.toNat)).length/\∃ cells,Own w.heap.size w1 9 1 A L C cells/\Flat 1 RS (spL (xs.take i.toNat)) cells,fun _ _ _ i _=>((l:Int)-i).toNat,⟨by omega,by omega,Ext.refl w,rfl,[],Own.nil ..,.nil⟩,?_⟩;rintro A L C i w1 ⟨h0,hi,hx,hL,cells,hown,hf⟩;refine ⟨fun hlt=>?_,fun hge=>?_⟩
 ·have hlt:=odt hlt;obtain ⟨p,x,hp,hxs,cs,hc,hv⟩:=hl.get h0 hlt;have hmem:=mg_ hxs;have hokx:=b_9.1 hok x hmem;have hlen:=k_E xs (i+1).toNat;have htk:=n_J h0 hxs;obtain ⟨k,al,n,on,args,dirs,kids⟩:=x;have IHk:=IH k al n on args dirs kids hmem;obtain ⟨a1,l1,c1,a2,l2,c2,a3,l3,c3,rfl,hv1,hv2,hv3⟩:=c_w.1 hv;obtain ⟨⟨_,_,hc0⟩,hs0,⟨_,_,hc1⟩,hs1,⟨_,_,hc2⟩,hs2,⟨_,_,hc3⟩,hs3,⟨_,_,hc4⟩,hs4,⟨_,_,hc5⟩,hs5,⟨_,_,hc6⟩,-⟩:=hc;simp only [okSel] at hokx;obtain ⟨hk,-, -, hkids,hk1,-⟩:=hokx;have hsp:spS (.mk k al n on args dirs kids)=(if k=1 then [n] else [])++spL kids:=by
   simp only [spS];split
   ·rename_i h1;rw [(hk1 h1).2];rfl
   ·rfl
  rw [hsp] at htk;rw [htk] at hlen;simp only [la_] at hlen;refine ⟨p,hp,⟨h0,hlt⟩,_,hx.cell hc0 id,_,hx.cell hc1 id,_,hx.cell hc2 id,_,hx.cell hc3 id,_,_,_,hx.cell hc4 id,_,_,_,hx.cell hc5 id,_,_,_,hx.cell hc6 id,trivial,trivial,fun K17 hK17=>?_⟩;have hx16:EF w1 (w1.alloc (.cells #[.int .i64 k,.string al,.string n,.string on,.slice a1 l1 c1,.slice a2 l2 c2,.slice a3 l3 c3] 78)):=(Ext.refl w1).alloc _;have key:∀ (A':OA) (L' C':Nat) (w':World) (cells':List Value),EF w w'->L'=(spL (xs.take i.toNat)++if k=1 then [n] else []).length->Own w.heap.size w' 9 1 A' L' C' cells'->Flat 1 RS (spL (xs.take i.toNat)++if k=1 then [n] else []) cells'->K17 A' L' C' w':=by
   intro A' L' C' w' cells' x' hL' o' f';refine hK17 A' L' C' w' ?_;refine (IHk a3 l3 c3 w' (hv3.keep x'.keep) hkids (by omega)).mono ?_;rintro _ w21 ⟨A2,L2,C2,rfl,x21,hL2,cells2,o2,f2⟩;rw [la_] at hL';have o1:=o'.keep x21 fun _ _=>id;obtain ⟨A3,C3,w24,r24,⟨cells3,o3,f3⟩,x24,-⟩:=a_i o1 (lt_ x'.size x21.size) f' (o2.sl f2 (by omega) (by omega)) (by omega);refine ⟨A2,L2,C2,rfl,⟨x21.keepT _,trivial⟩,A3,L'+L2,C3,w24,r24,⟨o1.keepT x24 (by decide),trivial⟩,?_⟩;rw [a_a h0 (by omega)];refine next h0 hlt ⟨(x'.then x21).trans x24 fun b hb hbl=>?_,?_,cells3,o3,?_⟩
   ·have:=(o1.base b hbl).1;omega
   ·rw [htk];simp only [la_];omega
   ·rw [htk,<- List.append_assoc];exact f3
  refine ⟨fun hk=>?_,fun hk=>?_⟩
  ·have hk:k=1:=by simpa using hk
   obtain ⟨A2,C2,w27,r1,⟨cells2,o2,f2⟩,x2,k2⟩:=a_S (hown.keep hx16 fun _ _=>id) (lt_ hx.size hx16.size) hf (s:=n) hs2 (by omega);refine ⟨trivial,A2,L+1,C2,w27,r1,⟨k2 78 (by decide),trivial⟩,key A2 (L+1) C2 w27 cells2 ((hx.then hx16).trans x2 fun b hb hbl=>?_) (by rw [if_pos hk,la_,hL];rfl) o2 (by rw [if_pos hk];exact f2)⟩;have:=((hown.keep hx16 fun _ _=>id).base b hbl).1;omega
  ·have hk:k≠1:=fun e=>by simp [e] at hk
   exact key A L C _ cells (hx.then hx16) (by rw [if_neg hk,List.append_nil,hL]) (hown.keep hx16 fun _ _=>id) (by rw [if_neg hk,List.append_nil];exact hf)
 ·have hle:=odf hge;rw [tl_ (by omega)] at hf hL;exact ⟨A,L,C,rfl,hx,hL,cells,hown,hf⟩
theorem e_w:∀ (d:Nat) (xs:List Sel),SizeOf.sizeOf xs<d->SpsOf xs
 | 0,_,h=>by omega
 | d+1,xs,h=>j_g fun k al n on args dirs kids hm=>e_w d kids (by
   have:=List.sizeOf_lt_of_mem hm;simp only [Sel.mk.sizeOf_spec] at this;omega)
theorem e_v (xs:List Sel):SpsOf xs:=e_w _ xs (Nat.lt_succ_self _)
def spAll (ops:List OpD)(frags:List Frag):List BA:=(ops.flatMap fun x=>spL x.kids)++frags.flatMap fun x=>spL x.kids
theorem n_b (ops:List OpD)(frags:List Frag):(spAll ops frags).length=spTot ops frags:=by
 simp [spAll,spTot,List.length_flatMap]
theorem i_9 {a:OA}{l c:Nat}{w:World}(hl:ROps w a l c ops)(hl':a_X w a' l' c' frags)(ok1:∀ x∈ops,okOp x)(ok2:∀ x∈frags,b_j x)(hsp:spTot ops frags<=2097152):
  CP 103 #[.agg #[.slice a l c,.slice a' l' c']] w fun e w'=>∃ A L C,e=.returned (.slice A L C)/\EF w w'/\RStrs w' A L C (spAll ops frags):=by
 obtain ⟨e1,e3⟩:=hl.len;obtain ⟨e1',e3'⟩:=hl'.len;have htot:=n_b ops frags;simp only [spAll,la_] at htot;have hx0:=(Ext.refl (X:=fun _=>False) w).alloc (.cells #[.slice a l c,.slice a' l' c'] 30);refine j_I a l c a' l' c' w _ ⟨trivial,?_⟩;refine ⟨fun A L C i w1=>0<=i/\i<=l/\EF w w1/\L=((ops.take i.toNat).flatMap fun x=>spL x.kids).length/\∃ cells,Own w.heap.size w1 9 1 A L C cells/\Flat 1 RS ((ops.take i.toNat).flatMap fun x=>spL x.kids) cells,fun _ _ _ i _=>((l:Int)-i).toNat,⟨by omega,by omega,hx0,rfl,[],Own.nil ..,.nil⟩,?_⟩;rintro A L C i w1 ⟨h0,hi,hx,hL,cells,hown,hf⟩;refine ⟨fun hlt=>?_,fun hge=>?_⟩
 ·have hlt:=odt hlt;obtain ⟨p,x,hp,hxs,cs,hc,a1,l1,c1,a2,l2,c2,a3,l3,c3,rfl,hv1,hv2,hv3⟩:=hl.get h0 hlt;obtain ⟨⟨_,_,hc0⟩,hs0,⟨_,_,hc1⟩,hs1,⟨_,_,hc2⟩,hs2,⟨_,_,hc3⟩,hs3,⟨_,_,hc4⟩,-⟩:=hc;have hlen:=b_V (fun x:OpD=>spL x.kids) ops (i+1).toNat;have hsn:=d_i (fun x:OpD=>spL x.kids) h0 hxs;have hle1:(spL x.kids).length<=2097152:=by
   rw [hsn,la_] at hlen;omega
  refine ⟨p,hp,⟨h0,hlt⟩,_,hx.cell hc0 id,_,hx.cell hc1 id,_,_,_,hx.cell hc2 id,_,_,_,hx.cell hc3 id,_,_,_,hx.cell hc4 id,trivial,trivial,?_⟩;have hx16:=hx.alloc (.cells #[.string x.kind,.string x.name,.slice a1 l1 c1,.slice a2 l2 c2,.slice a3 l3 c3] 58);have hy16:EF w1 (w1.alloc (.cells #[.string x.kind,.string x.name,.slice a1 l1 c1,.slice a2 l2 c2,.slice a3 l3 c3] 58)):=(Ext.refl w1).alloc _;refine (e_v x.kids a3 l3 c3 _ (hv3.keep hx16.keep) (ok1 x (mg_ hxs)).2.2.2 hle1).mono ?_;rintro _ w18 ⟨A2,L2,C2,rfl,x18,hL2,cells2,o2,f2⟩;have o1:=(hown.keep hy16 fun _ _=>id).keep x18 fun _ _=>id;obtain ⟨A3,C3,w21,r21,⟨cells3,o3,f3⟩,x21,-⟩:=a_i o1 (lt_ hx16.size x18.size) hf (o2.sl f2 (by omega) (by omega)) (by rw [hsn,la_] at hlen;omega);refine ⟨A2,L2,C2,rfl,⟨x18.keepT _,x18.keepT _,trivial⟩,A3,L+L2,C3,w21,r21,⟨o1.keepT x21 (by decide),o1.keepT x21 (by decide),trivial⟩,?_⟩;rw [a_a h0 (by omega)];refine next h0 hlt ⟨(hx16.then x18).trans x21 fun b hb hbl=>?_,?_,cells3,o3,?_⟩
  ·have:=(o1.base b hbl).1;omega
  ·rw [hsn,la_];omega
  ·rw [hsn];exact f3
 ·have hle:=odf hge;rw [tl_ (by omega)] at hf hL;refine ⟨fun A L C i w1=>0<=i/\i<=l'/\EF w w1/\L=((ops.flatMap fun x=>spL x.kids)++(frags.take i.toNat).flatMap fun x=>spL x.kids).length/\∃ cells,Own w.heap.size w1 9 1 A L C cells/\Flat 1 RS ((ops.flatMap fun x=>spL x.kids)++(frags.take i.toNat).flatMap fun x=>spL x.kids) cells,fun _ _ _ i _=>((l':Int)-i).toNat,⟨by omega,by omega,hx,by simpa using hL,cells,hown,by simpa using hf⟩,?_⟩;clear hown hf hL hx hle hge h0 hi;rintro A L C i w1 ⟨h0,hi,hx,hL,cells,hown,hf⟩;rw [la_] at hL;refine ⟨fun hlt=>?_,fun hge=>?_⟩
  ·have hlt:=odt hlt;obtain ⟨p,x,hp,hxs,cs,hc,a2,l2,c2,a3,l3,c3,rfl,hv2,hv3⟩:=hl'.get h0 hlt;obtain ⟨⟨_,_,hc0⟩,hs0,⟨_,_,hc1⟩,hs1,⟨_,_,hc2⟩,hs2,⟨_,_,hc3⟩,-⟩:=hc;have hlen:=b_V (fun x:Frag=>spL x.kids) frags (i+1).toNat;have hsn:=d_i (fun x:Frag=>spL x.kids) h0 hxs;rw [hsn,la_] at hlen;refine ⟨p,hp,⟨h0,hlt⟩,_,hx.cell hc0 id,_,hx.cell hc1 id,_,_,_,hx.cell hc2 id,_,_,_,hx.cell hc3 id,trivial,trivial,?_⟩;have hx16:=hx.alloc (.cells #[.string x.name,.string x.on,.slice a2 l2 c2,.slice a3 l3 c3] 70);have hy16:EF w1 (w1.alloc (.cells #[.string x.name,.string x.on,.slice a2 l2 c2,.slice a3 l3 c3] 70)):=(Ext.refl w1).alloc _;refine (e_v x.kids a3 l3 c3 _ (hv3.keep hx16.keep) (ok2 x (mg_ hxs)).2.1 (by omega)).mono ?_;rintro _ w18 ⟨A2,L2,C2,rfl,x18,hL2,cells2,o2,f2⟩;have o1:=(hown.keep hy16 fun _ _=>id).keep x18 fun _ _=>id;obtain ⟨A3,C3,w21,r21,⟨cells3,o3,f3⟩,x21,-⟩:=a_i o1 (lt_ hx16.size x18.size) hf (o2.sl f2 (by omega) (by omega)) (by omega);refine ⟨A2,L2,C2,rfl,⟨x18.keepT _,x18.keepT _,trivial⟩,A3,L+L2,C3,w21,r21,⟨o1.keepT x21 (by decide),o1.keepT x21 (by decide),trivial⟩,?_⟩;rw [a_a h0 (by omega)];refine next h0 hlt ⟨(hx16.then x18).trans x21 fun b hb hbl=>?_,?_,cells3,o3,?_⟩
   ·have:=(o1.base b hbl).1;omega
   ·rw [hsn,la_,la_];omega
   ·rw [hsn,<- List.append_assoc];exact f3
  ·have hle:=odf hge;rw [tl_ (by omega)] at hf hL;exact ⟨A,L,C,rfl,hx,hown.sl hf (by omega) (by omega)⟩
theorem n_R (name:BA){a:OA}{l c:Nat}{w0 w:World}(hb0:EF w0 w)(hl':a_X w0 a' l' c' frags):
  CP 95 #[.agg #[.slice a l c,.slice a' l' c'],.string name] w fun e w'=>∃ s1 s2 a1 l1 c1 a2 l2 c2 b,e=.returned (.tuple #[.agg #[.string s1,.string s2,.slice a1 l1 c1,.slice a2 l2 c2],.bool b])/\EF w w'/\(b=true↔∃ f∈frags,f.name=name)/\(b=true->∃ f,a_h Frag.name frags name=some f/\s1=f.name/\s2=f.on/\RDirs w0 a1 l1 c1 f.dirs/\RSels w0 a2 l2 c2 f.kids)/\(b=false->a_h Frag.name frags name=none/\s2=E0):=by
 obtain ⟨e1',e3'⟩:=hl'.len;have hx4:=(Ext.refl (X:=fun _=>False) w).alloc (.cells #[.slice a l c,.slice a' l' c'] 30);have hx5:=hx4.alloc (.cells #[.string ⟨#[]⟩,.string ⟨#[]⟩,.slice none 0 0,.slice none 0 0] 70);refine o_3 a l c a' l' c' name w _ ⟨trivial,trivial,?_⟩;refine ⟨fun i _ _ _ _ _ _ _ _ w1=>0<=i/\i<=l'/\EF w w1/\(∀ f∈frags.take i.toNat,f.name≠name)/\a_h Frag.name (frags.take i.toNat) name=none,fun i _ _ _ _ _ _ _ _ _=>((l':Int)-i).toNat,⟨by omega,by omega,hx5,by simp,by simp [a_h]⟩,?_⟩;rintro i s9 s10 a11 a11l a11c a12 a12l a12c w1 ⟨h0,hi,hx,hn,hf1⟩;refine ⟨fun hlt=>?_,fun hge=>?_⟩
 ·have hlt:=odt hlt;obtain ⟨p,x,hp,hxs,cs,hc,a2,l2,c2,a3,l3,c3,rfl,hv2,hv3⟩:=hl'.get h0 hlt;obtain ⟨⟨_,_,hc0⟩,hs0,⟨_,_,hc1⟩,hs1,⟨_,_,hc2⟩,hs2,⟨_,_,hc3⟩,-⟩:=hc;have hx16:=hx.alloc (.cells #[.string x.name,.string x.on,.slice a2 l2 c2,.slice a3 l3 c3] 70);refine ⟨p,hp,⟨h0,hlt⟩,_,(hb0.then hx).cell hc0 id,_,(hb0.then hx).cell hc1 id,_,_,_,(hb0.then hx).cell hc2 id,_,_,_,(hb0.then hx).cell hc3 id,trivial,trivial,fun he=>⟨trivial,?_⟩,fun hne=>?_⟩
  ·exact ⟨_,_,_,_,_,_,_,_,true,rfl,hx16.setB (.inr hx4.size) _ _,⟨fun _=>⟨x,mg_ hxs,a_b.1 he⟩,fun _=>rfl⟩,fun _=>⟨x,c_J hf1 hxs (a_b.1 he),rfl,rfl,hv2,hv3⟩,nofun⟩
  ·rw [a_a h0 (by omega)];exact next h0 hlt ⟨hx16,a_g h0 hn hxs (a_f.1 hne),c_h h0 hf1 hxs (a_f.1 hne)⟩
 ·have hno:=a_o e1' hge hn;exact ⟨trivial,trivial,_,_,_,_,_,_,_,_,false,rfl,hx.setB (.inr hx4.size) _ _,⟨nofun,fun ⟨f,hf,he⟩=>absurd he (hno f hf)⟩,nofun,fun _=>⟨by have hle:=odf hge;rwa [tl_ (by omega)] at hf1,rfl⟩⟩
theorem n_o {a:OA}{l c:Nat}{w:World}(hl:ROps w a l c ops)(hl':a_X w a' l' c' frags)(ok1:∀ x∈ops,okOp x)(ok2:∀ x∈frags,b_j x)(hsp:spTot ops frags<=2097152):
  CP 38 #[.agg #[.slice a l c,.slice a' l' c']] w (RetB w fun b=>b=true↔∃ n∈spAll ops frags,∀ f∈frags,f.name≠n):=by
 have hx0:=(Ext.refl (X:=fun _=>False) w).alloc (.cells #[.slice a l c,.slice a' l' c'] 30);refine n_x a l c a' l' c' w _ ⟨trivial,?_⟩;refine (i_9 (hl.keep hx0.keep) (hl'.keep hx0.keep) ok1 ok2 hsp).mono ?_;rintro _ w5 ⟨A,L,C,rfl,x5,hr⟩;have y5:=hx0.then x5;obtain ⟨e1,e3⟩:=hr.len;refine ⟨A,L,C,rfl,⟨x5.keepT _,trivial⟩,fun i w1=>0<=i/\i<=L/\EF w5 w1/\∀ n∈(spAll ops frags).take i.toNat,∃ f∈frags,f.name=n,fun i _=>((L:Int)-i).toNat,⟨by omega,by omega,Ext.refl w5,by simp⟩,?_⟩;rintro i w1 ⟨h0,hi,hx,hn⟩;refine ⟨fun hlt=>?_,fun hge=>?_⟩
 ·have hlt:=odt hlt;obtain ⟨p,n,hp,hns,cs,hc,rfl⟩:=hr.get h0 hlt;refine ⟨p,hp,⟨h0,hlt⟩,n,hx.cell hc.1.choose_spec.2 id,?_⟩;refine (n_R n (y5.then hx) hl').mono ?_;rintro _ w14 ⟨s1,s2,a1,l1,c1,a2,l2,c2,b,rfl,x14,hb,-⟩;have y21:=(hx.then x14).alloc (.cells #[.string s1,.string s2,.slice a1 l1 c1,.slice a2 l2 c2] 70);refine ⟨s1,s2,a1,l1,c1,a2,l2,c2,b,rfl,⟨x14.keepT _,trivial⟩,trivial,trivial,fun h=>⟨true,rfl,y5.then y21,fun _=>⟨n,mg_ hns,fun f hf he=>?_⟩,fun _=>rfl⟩,fun h=>?_⟩
  ·rw [hb.2 ⟨f,hf,he⟩] at h;cases h
  ·rw [a_a h0 (by omega)];exact next h0 hlt ⟨y21,a_g h0 hn hns (hb.1 (by simpa using h))⟩
 ·have hall:=a_o e1 hge hn;refine ⟨false,rfl,y5.then hx,nofun,fun ⟨n,hm,hno⟩=>?_⟩;obtain ⟨f,hf,he⟩:=hall n hm;exact absurd he (hno f hf)
theorem i_6 {a:OA}{l c:Nat}{w:World}(hl:ROps w a l c ops)(hl':a_X w a' l' c' frags):
  CP 36 #[.agg #[.slice a l c,.slice a' l' c']] w (RetB w fun b=>b=true↔¬ (nz (frags.map Frag.name)).Nodup):=by
 obtain ⟨e1,e3⟩:=hl'.len;have hx0:=(Ext.refl (X:=fun _=>False) w).alloc (.cells #[.slice a l c,.slice a' l' c'] 30);refine j_A a l c a' l' c' w _ ⟨trivial,?_⟩;refine ⟨fun A L C i w1=>0<=i/\i<=l'/\EF w w1/\L=i.toNat/\∃ cells,Own w.heap.size w1 9 1 A L C cells/\Flat 1 RS ((frags.take i.toNat).map Frag.name) cells,fun _ _ _ i _=>((l':Int)-i).toNat,⟨by omega,by omega,hx0,rfl,[],Own.nil ..,.nil⟩,?_⟩;rintro A L C i w1 ⟨h0,hi,hx,hL,cells,hown,hf⟩;refine ⟨fun hlt=>?_,fun hge=>?_⟩
 ·have hlt:=odt hlt;obtain ⟨p,x,hp,hxs,cs,hc,a2,l2,c2,a3,l3,c3,rfl,hv2,hv3⟩:=hl'.get h0 hlt;obtain ⟨⟨_,_,hc0⟩,hs0,⟨_,_,hc1⟩,hs1,⟨_,_,hc2⟩,hs2,⟨_,_,hc3⟩,-⟩:=hc;refine ⟨p,hp,⟨h0,hlt⟩,_,hx.cell hc0 id,_,hx.cell hc1 id,_,_,_,hx.cell hc2 id,_,_,_,hx.cell hc3 id,trivial,trivial,trivial,?_⟩;have hx15:EF w1 (w1.alloc (.cells #[.string x.name,.string x.on,.slice a2 l2 c2,.slice a3 l3 c3] 70)):=(Ext.refl w1).alloc _;obtain ⟨A2,C2,w20,r1,⟨cells2,o2,f2⟩,x2,k2⟩:=a_S (hown.keep hx15 fun _ _=>id) (lt_ hx.size hx15.size) hf (s:=x.name) hs0 (by omega);have hx20:EF w w20:=(hx.then hx15).trans x2 fun b hb hbl=>by
   have:=((hown.keep hx15 fun _ _=>id).base b hbl).1;omega
  refine ⟨A2,L+1,C2,w20,r1,⟨k2 30 (by decide),k2 70 (by decide),trivial⟩,?_⟩;rw [a_a h0 (by omega)];refine next h0 hlt ⟨hx20,by omega,cells2,o2,?_⟩
  rw [c_M h0 hxs];simpa using f2
 ·have hle:=odf hge;rw [tl_ (by omega)] at hf;have hall:RStrs w1 A L C _:=hown.sl hf (by omega) (by omega);refine (o_b hall).mono ?_;rintro _ w' ⟨b,rfl,hx',hb⟩;exact ⟨b,rfl,⟨hx'.keepT _,trivial⟩,b,rfl,hx.then hx',hb⟩
def i_s (k:BA):Prop:=k=d_m∨k=kEnum∨k=b_f
def c_R (k:BA):Prop:=k=a_V∨k=b_i∨k=d_n
theorem f_r {T:TypeId}(g:Nat):∀ (vs:List Value) (o:Nat) (w:World) (cs:Array Value),objAt w g=some (.cells cs T (0,0))->o+vs.length<=cs.size->
  ∃ cs':Array Value,objAt (w.setCells g o vs) g=some (.cells cs' T (0,0))/\cs'.size=cs.size/\(∀ j,j<o->cs'[j]? =cs[j]?)/\∀ j u,vs[j]? =some u->cs'[o+j]? =some u
 | [],o,w,cs,h,_=>⟨cs,h,rfl,fun _ _=>rfl,fun j u hu=>by simp at hu⟩
 | v::r,o,w,cs,h,hl=>by
  simp only [List.length_cons] at hl;have h1:objAt (w.setCell ⟨g,o,none⟩ v) g=some (.cells (cs.setIfInBounds o v) T (0,0)):=a_E (a:=⟨g,o,none⟩) h rfl;obtain ⟨cs',e1,e2,e3,e4⟩:=f_r g r (o+1) _ _ h1 (by rw [Array.size_setIfInBounds];omega);refine ⟨cs',e1,by rw [e2,Array.size_setIfInBounds],fun j hj=>?_,fun j u hu=>?_⟩
  ·rw [e3 j (by omega),Array.getElem?_setIfInBounds_ne (by omega)]
  ·cases j with
   | zero=>
    obtain rfl:v=u:=by simpa using hu
    rw [Nat.add_zero,e3 o (by omega),Array.getElem?_setIfInBounds];simp;omega
   | succ j=>
    have:=e4 j u (by simpa using hu)
    rwa [show o+(j+1)=o+1+j by omega]
theorem f_q (g:Nat):∀ (vs:List Value) (o:Nat) (w:World),Ext (fun b=>b=g) w (w.setCells g o vs)
 | [],_,w=>Ext.refl w
 | v::r,o,w=>(Ext.setCell (X:=fun b=>b=g) (Ext.refl w) (a:=⟨g,o,none⟩) (.inl rfl) v).trans (f_q g r (o+1) _) fun _ _ e=>e
def Qs (bz:Nat)(w:World)(a:OA)(l c:Nat)(xs:List BA):Prop:=
 l=xs.length/\l<=c/\(∀ s∈xs,s.size<=4194304)/\((a=none/\c=0)∨∃ (g off:Nat) (cs:Array Value),a=some ⟨g,off,none⟩/\bz<=g/\objAt w g=some (.cells cs 9 (0,0))/\off+c<=cs.size/\∀ j s,xs[j]? =some s->cs[off+j]? =some (.string s))
section
variable {bz:Nat} {w w':World} {a:OA} {l c:Nat} {xs:List BA}
theorem k_Z {cells:List Value}(hf:Flat 1 RS xs cells)(j:Nat)(s:BA)(hs:xs[j]? =some s):cells[j]? =some (.string s)/\s.size<=4194304:=by
 obtain ⟨cs,h1,h2,h3,h4⟩:=hf.get j s hs;obtain rfl:cs=[.string s]:=h3;have:=h4 0 _ rfl;rw [Nat.mul_one,Nat.add_zero] at this;exact ⟨this,h2 (.string s) (by simp)⟩
theorem Qs.own {cells:List Value}(h:Own bz w 9 1 a l c cells)(hf:Flat 1 RS xs cells):Qs bz w a l c xs:=by
 have hl:=h.len;have hfl:=hf.len;refine ⟨by omega,hl.2,fun s hs=>?_,?_⟩
 ·obtain ⟨j,hj⟩:=List.mem_iff_getElem?.1 hs;exact (k_Z hf j s hj).2
 ·obtain ⟨h1,⟨h2,h3⟩|⟨g,cap,cur,e1,e2,e3,e4,e5,e6,e7⟩⟩:=h
  ·simp only [Value.slice.injEq] at h2;exact .inl ⟨h2.1,h2.2.2⟩
  ·simp only [Value.slice.injEq] at e1;obtain ⟨rfl,-, rfl⟩:=e1;refine .inr ⟨g,0,cur,rfl,e2,e3,by omega,fun j s hs=>?_⟩;have:=(k_Z hf j s hs).1;rw [<- e7,List.getElem?_take] at this;split at this
   ·rw [Nat.zero_add,<- Array.getElem?_toList];exact this
   ·cases this
theorem Qs.keep {X:Nat->Prop}(h:Qs bz w a l c xs)(hx:Ext X w w')(hn:∀ b,blkOf a b->¬ X b):Qs bz w' a l c xs:=by
 obtain ⟨h1,h2,h3,h4|⟨g,off,cs,rfl,h5,h6,h7⟩⟩:=h
 ·exact ⟨h1,h2,h3,.inl h4⟩
 ·exact ⟨h1,h2,h3,.inr ⟨g,off,cs,rfl,h5,hx.old g _ (hn g ⟨_,rfl,rfl⟩) h6,h7⟩⟩
theorem Qs.base (h:Qs bz w a l c xs):∀ b,blkOf a b->bz<=b/\b<w.heap.size:=by
 rintro b ⟨p,rfl,rfl⟩;obtain ⟨h1,h2,h3,⟨h4,-⟩|⟨g,off,cs,h4,h5,h6,h7⟩⟩:=h
 ·cases h4
 ·cases h4;exact ⟨h5,a_3 h6⟩
theorem Qs.get (h:Qs bz w a l c xs){j:Nat}{s:BA}(hs:xs[j]? =some s):∃ p,a=some p/\w.cell? (p.add j)=some (.string s):=by
 obtain ⟨h1,h2,h3,⟨rfl,h4⟩|⟨g,off,cs,rfl,h5,h6,h7,h8⟩⟩:=h
 ·have:=(List.getElem?_eq_some_iff.1 hs).1;omega
 ·refine ⟨_,rfl,?_⟩;rw [Addr.add_lit];exact (show At w 9 ⟨g,off+j,none⟩ (.string s) from ⟨cs,(0,0),h6,rfl,h8 j s hs⟩).cell
theorem Qs.one (w:World){s:BA}(hs:s.size<=4194304):Qs w.heap.size (w.alloc (.cells #[.string s] 9)) (some (adr w.heap.size)) 1 1 [s]:=
 ⟨rfl,Nat.le_refl _,fun x hx=>by rw [List.mem_singleton.1 hx];exact hs,.inr ⟨w.heap.size,0,#[.string s],rfl,Nat.le_refl _,Blk.made w 9 [.string s],by simp,fun j x hx=>by
  cases j with
  | zero=>simpa using hx
  | succ j=>simp at hx⟩⟩
theorem Qs.nil (bz:Nat)(w:World):Qs bz w none 0 0 []:=⟨rfl,Nat.le_refl _,by simp,.inl ⟨rfl,rfl⟩⟩
theorem Qs.sl (h:Qs bz w a l c xs)(hl:l<=4194304):RStrs w a l c xs:=by
 refine ⟨h.1,h.2.1,hl,fun i x hx=>?_⟩;obtain ⟨h1,h2,h3,⟨rfl,h4⟩|⟨g,off,cs,rfl,h5,h6,h7,h8⟩⟩:=h
 ·have:=(List.getElem?_eq_some_iff.1 hx).1;omega
 ·refine ⟨_,rfl,[.string x],⟨⟨9,.inl rfl,?_⟩,h3 x (mg_ hx),trivial⟩,rfl⟩;rw [Nat.mul_one,Addr.add_lit];exact ⟨cs,(0,0),h6,rfl,h8 i x hx⟩
theorem Qs.tail (h:Qs bz w a l c (x::xs)):Qs bz w (if c=1 then a else a.map (·.add 1)) (l-1) (c-1) xs/\∀ b,blkOf (if c=1 then a else a.map (·.add 1)) b->blkOf a b:=by
 obtain ⟨h1,h2,h3,⟨rfl,h4⟩|⟨g,off,cs,rfl,h5,h6,h7,h8⟩⟩:=h
 ·simp at h1;omega
 ·simp only [List.length_cons] at h1;have hb:∃ off',(if c=1 then some (⟨g,off,none⟩:Addr) else (some (⟨g,off,none⟩:Addr)).map (·.add 1))=some ⟨g,off',none⟩/\off'+(c-1)<=cs.size/\(xs≠[]->off'=off+1):=by
   split
   ·rename_i hc;refine ⟨off,rfl,by omega,fun hx=>?_⟩;have:xs.length≠0:=fun h=>hx (List.length_eq_zero_iff.1 h);omega
   ·exact ⟨off+1,by rw [Option.map_some,Addr.add_lit],by omega,fun _=>rfl⟩
  obtain ⟨off',e1,e2,e3⟩:=hb;rw [e1];refine ⟨⟨by omega,by omega,fun s hs=>h3 s (by simp [hs]),.inr ⟨g,off',cs,rfl,h5,h6,e2,fun j s hs=>?_⟩⟩,fun b ⟨p,hp,hpb⟩=>⟨⟨g,off,none⟩,rfl,by cases hp;exact hpb⟩⟩;rw [e3 (fun h=>by rw [h] at hs;simp at hs)];have:=h8 (j+1) s (by simpa using hs)
  rwa [show off+1+j=off+(j+1) by omega]
theorem Qs.more (h:Qs bz w a l c xs)(hb:bz<=w.heap.size){b2:Nat}{ys:List BA}(h':Qs b2 w a' l' c' ys)(h2:l+l'<=16777216):
  ∃ (A:OA) (C:Nat) (w':World),(Go.builtin .append #[71,71] 71 #[false,false] #[.slice a l c,.slice a' l' c']).run Tryz.prog w=.ok (.value (.slice A (l+l') C)) w'/\
   Qs bz w' A (l+l') C (xs++ys)/\Ext (blkOf a) w w'/\(∀ T',T'≠9->KeepT T' w w')/\(∀ b,blkOf A b->blkOf a b∨w.heap.size<=b):=by
 have ht:Tryz.prog.underlying 71=some (.slice 9):=by kernel_rfl
 have hi:Tryz.prog.info? 9=some Tryz.t9:=by kernel_rfl
 have hl:=h.1;have hl':=h'.1;have hsz:∀ s∈xs++ys,s.size<=4194304:=fun s hs=>(ma_.1 hs).elim (h.2.2.1 s) (h'.2.2.1 s);cases a' with
 | none=>
  have:c'=0:=by
   obtain ⟨-, -, -, ⟨-, h⟩|⟨g,off,cs,h,-⟩⟩:=h'
   ·exact h
   ·cases h
  have h0:l'=0:=by have:=h'.2.1;omega
  subst h0;have hy:ys=[]:=List.length_eq_zero_iff.1 hl'.symm;subst hy;exact ⟨a,c,w,d_u _ _ _ ht hi h.2.1 _ _,by simpa using h,Ext.refl w,fun _ _=>(Ext.refl (X:=fun _=>False) w).keepT _,fun _=>.inl⟩
 | some p=>
  let news:List Value:=ys.map Value.string
  have hnl:news.length=l'*1:=by simp [news];omega
  have hnews:∀ j u,news[j]? =some u->w.cell? (p.add j)=some u:=fun j u hu=>by
   simp only [news,List.getElem?_map,Option.map_eq_some_iff] at hu;obtain ⟨s,hs,rfl⟩:=hu;obtain ⟨p',hp,hc⟩:=h'.get hs;cases hp;exact hc
  have h1:∀ u∈news,u.oneCell'=true:=fun u hu=>by
   obtain ⟨s,-, rfl⟩:=mm_.1 hu;rfl
  have key:∀ {A:OA} {C:Nat} {w':World} {B:Nat},Own B w' 9 1 A (l+l') C (xs.map Value.string++news)->bz<=B->Qs bz w' A (l+l') C (xs++ys):=by
   intro A C w' B ho hB;have hf:Flat 1 RS (xs++ys) (xs.map Value.string++news):=by
    have:∀ zs:List BA,(∀ s∈zs,s.size<=4194304)->Flat 1 RS zs (zs.map Value.string):=by
     intro zs;induction zs with
     | nil=>intro _;exact .nil
     | cons z zs ih=>intro hz;exact Flat.cons (cs:=[.string z]) rfl (i_Q (hz z (by simp))) rfl (ih fun s hs=>hz s (by simp [hs]))
    have:=this (xs++ys) hsz
    rwa [List.map_append] at this
   obtain ⟨q1,q2,q3,q4|⟨g,off,cs,q4,q5,q6⟩⟩:=Qs.own ho hf
   ·exact ⟨q1,q2,q3,.inl q4⟩
   ·exact ⟨q1,q2,q3,.inr ⟨g,off,cs,q4,lt_ hB q5,q6⟩⟩
  obtain ⟨-, hlc,hsx,⟨rfl,rfl⟩|⟨g,off,cs,rfl,h5,h6,h7,h8⟩⟩:=h
  ·have h0:l=0:=by omega
   subst h0;have hx:xs=[]:=List.length_eq_zero_iff.1 hl.symm;subst hx;obtain ⟨A,C,w',r,o,x,hA⟩:=c_a 71 9 Tryz.t9 _ 1 _ ht hi rfl (by kernel_rfl) rfl (by kernel_rfl) (by omega) (Own.nil w.heap.size w 9 1) (Nat.le_refl _) (p:=p) (c':=c') hnl hnews h1 h2 (by decide) 71 #[false,false];have x0:EF w w':=x.mono fun b _ e=>by
    obtain ⟨q,hq,-⟩:=e;cases hq
   exact ⟨A,C,w',r,key (by simpa using o) hb,x,fun T' _=>x0.keepT T',fun b hbA=>(hA b hbA).imp id fun e=>by omega⟩
  ·rcases Nat.lt_or_ge c (l+l') with hroom|hroom
   ·obtain ⟨v',w',r,o,gr⟩:=run_append_arg_grows (P:=Tryz.prog) w 71 71 9 Tryz.t9 _ 1 _ ht hi rfl (by kernel_rfl) rfl (by kernel_rfl) (by omega) ⟨g,off,none⟩ l c (xs.map Value.string) (by simp;omega) (fun j u hu=>by
     simp only [List.getElem?_map,Option.map_eq_some_iff] at hu;obtain ⟨s,hs,rfl⟩:=hu;rw [Addr.add_lit];exact (show At w 9 ⟨g,off+j,none⟩ (.string s) from ⟨cs,(0,0),h6,rfl,h8 j s hs⟩).cell) p l' c' news hnl hnews hroom (by simp only [maxLen];omega) (by
      have:(l+l')*Tryz.t9.bytes<=16777216*16:=Nat.mul_le_mul h2 (by decide);omega)
    have hv:∃ A C,v'=.slice A (l+l') C:=by
     obtain ⟨_,h|⟨g,cap,cur,h,_⟩⟩:=o
     ·exact ⟨none,0,by rw [h.1,h.2]⟩
     ·exact ⟨_,_,h⟩
    obtain ⟨A,C,rfl⟩:=hv;have x0:EF w w':=Ext.of_grown gr fun k hk=>by cases hk
    refine ⟨A,C,w',?_,key o hb,x0.toM _,fun T' _=>x0.keepT T',fun b hbA=>.inr (Own.base o b hbA).1⟩;simp only [Go.builtin,Sem.run_bind,r,Result.andThen_ok,Sem.run_pure]
   ·have hcells:∀ j,j<news.length->∃ u,w.cell? ⟨g,off+l*1+j,none⟩=some u:=fun j hj=>by
     have hj':off+l*1+j<cs.size:=by omega
     exact ⟨cs[off+l*1+j],(show At w 9 ⟨g,off+l*1+j,none⟩ _ from ⟨cs,(0,0),h6,rfl,Array.getElem?_eq_getElem hj'⟩).cell⟩
    have r:=run_append_room_cells (P:=Tryz.prog) w 71 71 9 Tryz.t9 ht hi g off l c p l' c' news (by rw [hnl];rfl) hnews h1 hroom (fun j hj=>by
     obtain ⟨u,hu⟩:=hcells j hj;have e:Tryz.t9.size=1:=by kernel_rfl
     rw [e,hu];rfl) (fun j hj=>by
     have h6':w.heap[g]? =some (.cells cs 9 (0,0)):=h6;simp [World.frozen?,h6'])
    have e:Tryz.t9.size=1:=by kernel_rfl
    rw [e] at r;obtain ⟨cs',e1,e2,e3,e4⟩:=f_r g news (off+l*1) w cs h6 (by omega);have x:=f_q g news (off+l*1) w;refine ⟨some ⟨g,off,none⟩,c,w.setCells g (off+l*1) news,?_,⟨by rw [la_];omega,hroom,hsz,.inr ⟨g,off,cs',rfl,h5,e1,by omega,fun j s hs=>?_⟩⟩,x.mono fun b _ e=>⟨_,rfl,e.symm⟩,fun T' hT b ccs fr ho=>?_,fun b hbA=>.inl (by obtain ⟨q,hq,hqb⟩:=hbA;cases hq;exact ⟨_,rfl,hqb⟩)⟩
    ·simp only [Go.builtin,Sem.run_bind,r,Result.andThen_ok,Sem.run_pure]
    ·rcases Nat.lt_or_ge j xs.length with hj|hj
     ·rw [List.getElem?_append_left hj] at hs;rw [e3 _ (by omega)];exact h8 j s hs
     ·rw [List.getElem?_append_right hj] at hs;have:=e4 (j-xs.length) (.string s) (by simp [news,hs])
      rwa [show off+l*1+(j-xs.length)=off+j by omega] at this
    ·refine x.old b _ (fun hbg=>?_) ho;have:b=g:=hbg;subst this;rw [ho] at h6;simp only [Option.some.injEq,Obj.cells.injEq] at h6;exact hT h6.2.1
end
end Go.VC
