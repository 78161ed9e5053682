/- Part of the proof of a law of a rule over documents (ReadA), where what the arguments hold is of bulk at most 1048576. -/
import Derived.JoinedCond
import Derived.Test.YtmnhdjhlcgfpkaaGreatBaseC
import Derived.Test.YtmnhdjhlcgfpkaaGreatRows
import Derived.ChangeArms
import Derived.DataReads
import Derived.Test.YtmnhdjhlcgfpkaaGreatMakeC
set_option linter.unusedVariables false
set_option linter.unusedSectionVars false
namespace Go.VC
open Go
theorem m_p {P:Program}{f:FuncId}{fn:Func}{s:ChangeSpec}{c:OpenClaim}
  (h0:(c.wf (OpenSpec.ofChange s))=true)
  (h1:(laidOutB P)=true)
  (h2:(mapsRowed P)=true)
  (h3:(fn.params.all (P.readableRec ·))=true)
  (h4:(namedTie P c.named s.vars)=true)
  (h5:(c.stops==[])=true)
  (h6:(P.stops==[])=true)
  (h7:(c.knobs==[])=true)
  (h8:(P.stopKnobs==[])=true)
  (h9:(c.inPlace==P.inPlace f)=true)
  (h10:(c.unfollowed==P.unfollowed f)=true)
  (h11:(c.recurses==P.recurses f)=true)
  (h12:(c.named==P.varsNamed f)=true)
  (h13:(c.maps==(fn.params.toList++s.plain.varTypes P).any (P.mapsRec ·))=true)
  (h14:(c.ifaces==(fn.params.toList++s.plain.varTypes P).any (P.ifacesRec ·))=true)
  (h15:(c.mapsOut==P.mapsAmong fn.resultTypes.toList)=true)
  (h16:(c.loops==(fn.params.toList++s.plain.varTypes P).any (P.loopsFrom ·))=true)
  (h17:(c.wideKeys==(fn.params.toList++s.plain.varTypes P++fn.resultTypes.toList).any (P.wideKeysFrom ·))=true)
  (h18:(s.vars.all (P.varReadable ·))=true)
  (h19:(fn.resultTypes.all (fun t=>P.readableRec t&&decide (t<P.types.size)))=true)
  (h20:(c.ifacesOut==fn.resultTypes.toList.any (P.ifacesRec ·))=true)
  (h21:(c.loopsOut==fn.resultTypes.toList.any (P.loopsFrom ·))=true)
  (h22:(c.plainKeys==P.plainKeys)=true)
  (h23:(c.shortTexts.isNone)=true)
  (h24:(P.stopsHeard)=true)
  (h25:(P.mayEnter)=true)
  (h26:(c.lifted==P.liftsFinal)=true)
  (h27:(P.make==some c.make)=true)
  (h28:c.domain.isEmpty=true) (k28:c.kinds=[])
  (h29:(c.pinned==c.pinnedBy)=true)
  (h30:(c.veiled==(fn.params.toList++s.plain.varTypes P++fn.resultTypes.toList).any (P.veiledRec ·))=true)
  (h31:(c.veiledFits P fn.params.toList (fn.params.toList++s.plain.varTypes P++fn.resultTypes.toList))=true):joinedFacts P f fn s c=true:=by
 unfold joinedFacts;simp only [Bool.and_eq_true,h28,k28,if_true];exact ⟨⟨⟨⟨⟨⟨⟨⟨⟨⟨⟨⟨⟨⟨⟨⟨⟨⟨⟨⟨⟨⟨⟨⟨⟨⟨⟨⟨⟨⟨⟨h0,h1⟩,h2⟩,h3⟩,h4⟩,h5⟩,h6⟩,h7⟩,h8⟩,h9⟩,h10⟩,h11⟩,h12⟩,h13⟩,h14⟩,h15⟩,h16⟩,h17⟩,h18⟩,h19⟩,h20⟩,h21⟩,h22⟩,h23⟩,h24⟩,h25⟩,h26⟩,h27⟩,rfl⟩,h29⟩,h30⟩,h31⟩
end Go.VC
namespace Go.VC
open Go Go.Proofs
variable [DB]
theorem l_t {w:World}{a:Addr}{v:Value}(h:w.cell? a=some v):∃ T,At w T a v:=by
 unfold World.cell? at h;split at h
 ·rename_i c T fr ho;split at h
  ·cases h
  ·rename_i hs;exact ⟨T,c,fr,ho,by simpa using hs,h⟩
 ·cases h
theorem f_8 {w:World}(hB:w.heap.size<=DB.B){T:TypeId}{p:Addr}:∀ (cs:List Value) (j:Nat),(∀ k u,cs[k]? =some u->w.cell? (adj p (j+k))=some u/\a_v u)->a_x w T p j cs
 | [],_,_=>trivial
 | v::l,j,h=>by
  obtain ⟨T',ha⟩:=l_t (h 0 v rfl).1;exact ⟨⟨T',.inr (Nat.lt_of_lt_of_le ha.lt hB),ha⟩,(h 0 v rfl).2,f_8 hB l (j+1) fun k u hu=>by
   have:=h (k+1) u (by simpa using hu)
   rwa [show j+(k+1)=j+1+k by omega] at this⟩
theorem k_S {w:World}(hB:w.heap.size<=DB.B){T:TypeId}{p:Addr}{n:Nat}{cs:List Value}(h:w.cells? 0 p n=some cs)(hs:∀ v∈cs,a_v v):a_x w T p 0 cs:=by
 obtain ⟨-, hl,hc⟩:=World.cells?_some h;refine f_8 hB cs 0 fun k u hu=>⟨?_,hs u (mg_ hu)⟩;rw [Nat.zero_add,c_2,hc k (by rw [<- hl];exact (List.getElem?_eq_some_iff.1 hu).1)];exact hu
theorem k_m {α:Type}{P:Nat->α->Prop}:∀ m:Nat,(∀ i,i<m->∃ x,P i x)->∃ xs:List α,xs.length=m/\∀ i x,xs[i]? =some x->P i x
 | 0,_=>⟨[],rfl,fun i x h=>by simp at h⟩
 | m+1,h=>by
  obtain ⟨xs,h1,h2⟩:=k_m m fun i hi=>h i (by omega);obtain ⟨x,hx⟩:=h m (by omega);refine ⟨xs++[x],by simp [h1],fun i y hy=>?_⟩;rcases Nat.lt_or_ge i xs.length with hi|hi
  ·rw [List.getElem?_append_left hi] at hy;exact h2 i y hy
  ·rw [List.getElem?_append_right hi] at hy;have:i-xs.length=0:=by
    rcases Nat.eq_zero_or_pos (i-xs.length) with h0|h0
    ·exact h0
    ·rw [List.getElem?_eq_none (by simp;omega)] at hy;cases hy
   rw [this] at hy;obtain rfl:x=y:=by simpa using hy
   have:i=m:=by omega
   rw [this];exact hx
section
variable {H:Type} {enc:TypeId × Value->H} {W:World} {N:Nat} {t:TypeId} {cs:List Value}
theorem k_Q (d:DataW H):1<=Go.Proofs.YtmnhdjhlcgfpkaaGreat.Rows.uptoBulk d:=by
 cases d with
 | lit l=>cases l<;>simp [Go.Proofs.YtmnhdjhlcgfpkaaGreat.Rows.uptoBulk]
 | nil=>simp [Go.Proofs.YtmnhdjhlcgfpkaaGreat.Rows.uptoBulk]
 | ptr d=>simp [Go.Proofs.YtmnhdjhlcgfpkaaGreat.Rows.uptoBulk]
 | slice elems spare=>simp [Go.Proofs.YtmnhdjhlcgfpkaaGreat.Rows.uptoBulk]
 | agg parts=>simp [Go.Proofs.YtmnhdjhlcgfpkaaGreat.Rows.uptoBulk]
 | iface t d=>simp [Go.Proofs.YtmnhdjhlcgfpkaaGreat.Rows.uptoBulk]
 | map entries=>simp [Go.Proofs.YtmnhdjhlcgfpkaaGreat.Rows.uptoBulk]
 | held h=>simp [Go.Proofs.YtmnhdjhlcgfpkaaGreat.Rows.uptoBulk]
theorem f_S {d:DataW H}{l:List (DataW H)}(h:d∈l):Go.Proofs.YtmnhdjhlcgfpkaaGreat.Rows.uptoBulk d<=Go.Proofs.YtmnhdjhlcgfpkaaGreat.Rows.uptoBulkAll l:=by
 induction l with
 | nil=>cases h
 | cons x r ih=>
  simp only [Go.Proofs.YtmnhdjhlcgfpkaaGreat.Rows.uptoBulkAll];rcases mc_.1 h with rfl|e
  ·omega
  ·have:=ih e;omega
theorem i_a (l:List (DataW H)):l.length<=Go.Proofs.YtmnhdjhlcgfpkaaGreat.Rows.uptoBulkAll l:=by
 induction l with
 | nil=>simp
 | cons x r ih=>
  have:=k_Q x;simp only [Go.Proofs.YtmnhdjhlcgfpkaaGreat.Rows.uptoBulkAll,List.length_cons];omega
def Rd (enc:TypeId × Value->H)(W:World)(N:Nat)(t:TypeId)(cs:List Value):Prop:=
 ∃ (n:Nat) (d:DataW H) (pl:List MemPlace),DataW.trod enc Tryz.prog W 0 (fun _=>true) true n t cs=some (d,pl)/\Go.Proofs.YtmnhdjhlcgfpkaaGreat.Rows.uptoBulk d<=N
theorem Rd.pos (h:Rd enc W N t cs):1<=N:=by
 obtain ⟨n,d,pl,-, hb⟩:=h;have:=k_Q d;omega
theorem Rd.str (h:Rd enc W N 9 cs):∃ s,cs=[.string s]/\s.size<=N:=by
 obtain ⟨n,d,pl,ht,hb⟩:=h;obtain ⟨s,rfl,hx,-⟩:=DataW.trod_string (by kernel_rfl) ht;refine ⟨s,rfl,?_⟩;simp only [Prod.mk.injEq] at hx;rw [hx.1] at hb;simp only [Go.Proofs.YtmnhdjhlcgfpkaaGreat.Rows.uptoBulk,Array.length_toList] at hb;have:s.size=s.data.size:=rfl;omega
theorem Rd.int (h:Rd enc W N 3 cs):∃ k,cs=[.int .i64 k]:=by
 obtain ⟨n,d,pl,ht,hb⟩:=h;obtain ⟨k,rfl,-, -⟩:=DataW.trod_int (k:=.i64) (by kernel_rfl) ht;exact ⟨k,rfl⟩
theorem Rd.bool (h:Rd enc W N 4 cs):∃ b,cs=[.bool b]:=by
 obtain ⟨n,d,pl,ht,hb⟩:=h;obtain ⟨b,rfl,-⟩:=DataW.trod_bool (by kernel_rfl) ht;exact ⟨b,rfl⟩
theorem Rd.slice {e:TypeId}(hB:W.heap.size<=DB.B)(ht:Tryz.prog.underlying t=some (.slice e)){n:Nat}(hc:Tryz.prog.cellsOf e=n)(h:Rd enc W N t cs)(hN:N<=4194304)(T:TypeId){α:Type}{R:α->List Value->Prop}
  (el:∀ cs,Rd enc W (N-1) e cs->cs.length=n->∃ x,(∀ v∈cs,a_v v)/\R x cs):∃ (a:OA) (l c:Nat) (xs:List α),cs=[.slice a l c]/\SlL W T n R a l c xs:=by
 obtain ⟨f,d,pl,htr,hb⟩:=h;rcases DataW.trod_slice ht htr with ⟨rfl,-⟩|⟨a,len,cap,elems,rest,m,-, rfl,hx,-, hlc,-, hlen,hel,-⟩
 ·exact ⟨none,0,0,[],rfl,rfl,by omega,by omega,fun i x h=>by simp at h⟩
 ·simp only [Prod.mk.injEq] at hx;obtain ⟨rfl,-⟩:=hx;simp only [Go.Proofs.YtmnhdjhlcgfpkaaGreat.Rows.uptoBulk] at hb;have hbl:=i_a (elems.map (·.1));rw [List.length_map,hlen] at hbl;have each:∀ i,i<len->∃ x,∃ cs,a_x W T (a.add (i*n)) 0 cs/\R x cs:=by
   intro i hi;have hi':=hel i hi;rw [hc,List.getElem?_eq_getElem (by omega)] at hi';obtain ⟨cs',hcells,htr'⟩:=Option.bind_eq_some_iff.1 hi';have hlc':=(World.cells?_some hcells).2.1;have hmem:(elems[i]'(by omega)).1∈elems.map (·.1):=mm_.2 ⟨_,List.getElem_mem _,rfl⟩;have hbp:=f_S hmem;obtain ⟨x,hs,hr⟩:=el cs' ⟨m,(elems[i]'(by omega)).1,(elems[i]'(by omega)).2,htr',by omega⟩ hlc';exact ⟨x,cs',k_S hB hcells hs,hr⟩
  obtain ⟨xs,hxl,hxs⟩:=k_m len each;exact ⟨some a,len,cap,xs,rfl,hxl.symm,hlc,by omega,fun i x hi=>⟨a,rfl,hxs i x hi⟩⟩
theorem n_0 {α:Type}(f:α->Nat):∀ (xs:List α) (ds:List (DataW H)),xs.length=ds.length->(∀ (i:Nat) (x:α) (d:DataW H),xs[i]? =some x->ds[i]? =some d->f x<=Go.Proofs.YtmnhdjhlcgfpkaaGreat.Rows.uptoBulk d)->(xs.map f).sum<=Go.Proofs.YtmnhdjhlcgfpkaaGreat.Rows.uptoBulkAll ds
 | [],[],_,_=>by simp
 | x::xs,d::ds,hl,h=>by
  have h1:=h 0 x d rfl rfl;have h2:=n_0 f xs ds (by simpa using hl) fun i y e hy he=>h (i+1) y e (by simpa using hy) (by simpa using he);simp only [List.map_cons,List.sum_cons,Go.Proofs.YtmnhdjhlcgfpkaaGreat.Rows.uptoBulkAll];omega
 | [],_::_,hl,_=>by simp at hl
 | _::_,[],hl,_=>by simp at hl
theorem Rd.slice2 {e:TypeId}(hB:W.heap.size<=DB.B)(ht:Tryz.prog.underlying t=some (.slice e)){n:Nat}(hc:Tryz.prog.cellsOf e=n)(h:Rd enc W N t cs)(hN:N<=4194304)(T:TypeId){α:Type}{R:α->List Value->Prop}(f:α->Nat)
  (el:∀ M cs,M<=N-1->Rd enc W M e cs->cs.length=n->∃ x,(∀ v∈cs,a_v v)/\R x cs/\f x<=M):∃ (a:OA) (l c:Nat) (xs:List α),cs=[.slice a l c]/\SlL W T n R a l c xs/\(xs.map f).sum<=N-1:=by
 obtain ⟨g,d,pl,htr,hb⟩:=h;rcases DataW.trod_slice ht htr with ⟨rfl,-⟩|⟨a,len,cap,elems,rest,m,-, rfl,hx,-, hlc,-, hlen,hel,-⟩
 ·exact ⟨none,0,0,[],rfl,⟨rfl,by omega,by omega,fun i x h=>by simp at h⟩,by simp⟩
 ·simp only [Prod.mk.injEq] at hx;obtain ⟨rfl,-⟩:=hx;simp only [Go.Proofs.YtmnhdjhlcgfpkaaGreat.Rows.uptoBulk] at hb;have hbl:=i_a (elems.map (·.1));rw [List.length_map,hlen] at hbl;have each:∀ i,i<len->∃ x,(∃ cs,a_x W T (a.add (i*n)) 0 cs/\R x cs)/\∀ d,(elems.map (·.1))[i]? =some d->f x<=Go.Proofs.YtmnhdjhlcgfpkaaGreat.Rows.uptoBulk d:=by
   intro i hi;have hi':=hel i hi;rw [hc,List.getElem?_eq_getElem (by omega)] at hi';obtain ⟨cs',hcells,htr'⟩:=Option.bind_eq_some_iff.1 hi';have hlc':=(World.cells?_some hcells).2.1;have hmem:(elems[i]'(by omega)).1∈elems.map (·.1):=mm_.2 ⟨_,List.getElem_mem _,rfl⟩;have hbp:=f_S hmem;obtain ⟨x,hs,hr,hf⟩:=el (Go.Proofs.YtmnhdjhlcgfpkaaGreat.Rows.uptoBulk (elems[i]'(by omega)).1) cs' (by omega) ⟨m,(elems[i]'(by omega)).1,(elems[i]'(by omega)).2,htr',Nat.le_refl _⟩ hlc';refine ⟨x,⟨cs',k_S hB hcells hs,hr⟩,fun d hd=>?_⟩;rw [List.getElem?_map,List.getElem?_eq_getElem (by omega)] at hd;obtain rfl:(elems[i]'(by omega)).1=d:=by simpa using hd
   exact hf
  obtain ⟨xs,hxl,hxs⟩:=k_m len each;refine ⟨some a,len,cap,xs,rfl,⟨hxl.symm,hlc,by omega,fun i x hi=>⟨a,rfl,(hxs i x hi).1⟩⟩,?_⟩;have:=n_0 f xs (elems.map (·.1)) (by rw [List.length_map,hlen,hxl]) fun i x d hx hd=>(hxs i x hx).2 d hd;omega
theorem Rd.fld {fs:Array Field}(ht:Tryz.prog.underlying t=some (.struct fs))(h:Rd enc W N t cs)(i:Nat)(u:TypeId)(o k:Nat)(hf:(fs[i]?).map (fun f=>(f.type,f.offset))=some (u,o))(hc:Tryz.prog.cellsOf u=k):Rd enc W (N-1) u ((cs.drop o).take k):=by
 obtain ⟨f,d,pl,htr,hb⟩:=h;obtain ⟨xs,n,-, hx,-, hlen,hfs⟩:=DataW.trod_struct ht htr;simp only [Prod.mk.injEq] at hx;obtain ⟨rfl,-⟩:=hx;simp only [Go.Proofs.YtmnhdjhlcgfpkaaGreat.Rows.uptoBulk] at hb;obtain ⟨fi,hfi,he⟩:=Option.map_eq_some_iff.1 hf;simp only [Prod.mk.injEq] at he;obtain ⟨rfl,rfl⟩:=he;have hi:i<fs.size:=(Array.getElem?_eq_some_iff.1 hfi).1;have:=hfs i fi hfi;rw [hc,List.getElem?_eq_getElem (by omega)] at this;have hmem:(xs[i]'(by omega)).1∈xs.map (·.1):=mm_.2 ⟨_,List.getElem_mem _,rfl⟩;have hbp:=f_S hmem;exact ⟨n,(xs[i]'(by omega)).1,(xs[i]'(by omega)).2,this,by omega⟩
theorem Rd.len {fs:Array Field}(ht:Tryz.prog.underlying t=some (.struct fs))(h:Rd enc W N t cs):cs.length=Tryz.prog.cellsOf t:=by
 obtain ⟨f,d,pl,htr,hb⟩:=h;obtain ⟨xs,n,-, hx,hl,-⟩:=DataW.trod_struct ht htr;exact hl
end
section
variable {H:Type} {enc:TypeId × Value->H} {W:World} {N:Nat} {cs:List Value}
theorem n_n (xs:List (DataW H)):((List.range xs.length).map fun i=>match xs[i]? with |some d=>Go.Proofs.YtmnhdjhlcgfpkaaGreat.Rows.uptoBulk d|none=>0).sum<=Go.Proofs.YtmnhdjhlcgfpkaaGreat.Rows.uptoBulkAll xs:=by
 induction xs with
 | nil=>simp
 | cons x r ih=>
  rw [List.length_cons,List.range_succ_eq_map];simp only [List.map_cons,List.sum_cons,List.map_map,Go.Proofs.YtmnhdjhlcgfpkaaGreat.Rows.uptoBulkAll];exact Nat.add_le_add (Nat.le_refl _) ih
theorem Rd.flds {t:TypeId}{fs:Array Field}(ht:Tryz.prog.underlying t=some (.struct fs))(k:Nat)(hk:fs.size=k)(h:Rd enc W N t cs):∃ B:Nat->Nat,((List.range k).map B).sum<=N-1/\
  ∀ (i:Nat) (u:TypeId) (o k:Nat),(fs[i]?).map (fun f=>(f.type,f.offset))=some (u,o)->Tryz.prog.cellsOf u=k->Rd enc W (B i) u ((cs.drop o).take k):=by
 obtain ⟨f,d,pl,htr,hb⟩:=h;obtain ⟨xs,n,-, hx,-, hlen,hfs⟩:=DataW.trod_struct ht htr;simp only [Prod.mk.injEq] at hx;obtain ⟨rfl,-⟩:=hx;simp only [Go.Proofs.YtmnhdjhlcgfpkaaGreat.Rows.uptoBulk] at hb;have hall:=n_n (xs.map (·.1));refine ⟨fun i=>match (xs.map (·.1))[i]? with |some d=>Go.Proofs.YtmnhdjhlcgfpkaaGreat.Rows.uptoBulk d|none=>0,?_,fun i u o k hf hc=>?_⟩
 ·rw [List.length_map,hlen,hk] at hall;omega
 ·obtain ⟨fi,hfi,he⟩:=Option.map_eq_some_iff.1 hf;simp only [Prod.mk.injEq] at he;obtain ⟨rfl,rfl⟩:=he;have hi:i<fs.size:=(Array.getElem?_eq_some_iff.1 hfi).1;have:=hfs i fi hfi;rw [hc,List.getElem?_eq_getElem (by omega)] at this;refine ⟨n,(xs[i]'(by omega)).1,(xs[i]'(by omega)).2,this,?_⟩;have hi':(xs.map (·.1))[i]? =some (xs[i]'(by omega)).1:=by
   rw [List.getElem?_map,List.getElem?_eq_getElem (by omega)];rfl
  simp only [hi'];exact Nat.le_refl _
theorem n_Z:∀ (N:Nat) {cs:List Value},W.heap.size<=DB.B->N<=4194304->Rd enc W N 115 cs->∃ (x:Val) (k:Int) (r:BA) (a:OA) (l c:Nat),cs=[.int .i64 k,.string r,.slice a l c]/\r.size<=N/\RVal W x k r a l c/\valW x<=N:=by
 intro N;induction N using Nat.strongRecOn with
 | ind N ih=>
  intro cs hB hN h;have hl:cs.length=3:=(h.len Tryz.underlying115).trans (by kernel_rfl);obtain ⟨v0,v1,v2,rfl⟩:∃ v0 v1 v2,cs=[v0,v1,v2]:=by
   match cs,hl with
   | [v0,v1,v2],_=>exact ⟨_,_,_,rfl⟩
  obtain ⟨B,hs,hf⟩:=h.flds Tryz.underlying115 3 (by kernel_rfl);simp only [List.range,List.range.loop,List.map_cons,List.map_nil,List.sum_cons,List.sum_nil] at hs;have hp:=h.pos;have f0:Rd enc W (B 0) 3 [v0]:=hf 0 3 0 1 rfl (by kernel_rfl);have f1:Rd enc W (B 1) 9 [v1]:=hf 1 9 1 1 rfl (by kernel_rfl);have f2:Rd enc W (B 2) 113 [v2]:=hf 2 113 2 1 rfl (by kernel_rfl);obtain ⟨k,e0⟩:=f0.int;obtain ⟨r,e1,hr⟩:=f1.str;have hp2:=f2.pos;obtain ⟨a,l,c,kids,e2,hk,hm⟩:=f2.slice2 hB Tryz.underlying113 (n:=4) (by kernel_rfl) (by omega) 256 (R:=RKid W) (fun x=>1+valW x.2) fun M cs hM he hl=>by
   obtain ⟨u0,u1,u2,u3,rfl⟩:∃ v0 v1 v2 v3,cs=[v0,v1,v2,v3]:=by
    match cs,hl with
    | [v0,v1,v2,v3],_=>exact ⟨_,_,_,_,rfl⟩
   obtain ⟨B',hs',hf'⟩:=he.flds Tryz.underlying256 2 (by kernel_rfl);simp only [List.range,List.range.loop,List.map_cons,List.map_nil,List.sum_cons,List.sum_nil] at hs';have hp':=he.pos;have g0:Rd enc W (B' 0) 9 [u0]:=hf' 0 9 0 1 rfl (by kernel_rfl);have g1:Rd enc W (B' 1) 115 [u1,u2,u3]:=hf' 1 115 1 3 rfl (by kernel_rfl);obtain ⟨s,e0,hs⟩:=g0.str;obtain ⟨x,k,r,a,l,c,e1,hr,hx,hm⟩:=ih (B' 1) (by omega) hB (by omega) g1;simp only [List.cons.injEq,and_true] at e0 e1;obtain ⟨rfl,rfl,rfl⟩:=e1;subst e0;refine ⟨(s,x),fun v hv=>?_,⟨k,r,a,l,c,rfl,hx⟩,by show 1+valW x<=M;omega⟩;simp only [mc_,nn_,or_false] at hv;rcases hv with rfl|rfl|rfl|rfl<;>first|rfl|(show ByteArray.size _<=_;omega)
  simp only [List.cons.injEq,and_true] at e0 e1 e2;subst e0 e1 e2;refine ⟨.mk k r kids,k,r,a,l,c,rfl,by omega,e_U.2 ⟨rfl,rfl,hk⟩,?_⟩;simp only [valW,j_p];omega
theorem k_y (hB:W.heap.size<=DB.B)(hN:N<=4194304)(h:Rd enc W N 64 cs):∃ a l c xs,cs=[.slice a l c]/\RVals W a l c xs/\(xs.map valW).sum<=N-1:=
 h.slice2 hB Tryz.underlying64 (n:=3) (by kernel_rfl) hN 115 valW fun M cs hM he _=>by
  obtain ⟨x,k,r,a,l,c,rfl,hr,hx,hm⟩:=n_Z _ hB (by omega) he;refine ⟨x,fun v hv=>?_,⟨k,r,a,l,c,rfl,hx⟩,hm⟩;simp only [mc_,nn_,or_false] at hv;rcases hv with rfl|rfl|rfl<;>first|rfl|(show ByteArray.size _<=_;omega)
theorem m_3:∀ (N:Nat) {cs:List Value},W.heap.size<=DB.B->N<=4194304->Rd enc W N 63 cs->∃ (x:Typ) (n:BA) (a:OA) (l c:Nat) (nn:Bool),cs=[.string n,.slice a l c,.bool nn]/\n.size<=N/\RTyp W x n a l c nn/\typW x<=N:=by
 intro N;induction N using Nat.strongRecOn with
 | ind N ih=>
  intro cs hB hN h;have hl:cs.length=3:=(h.len Tryz.underlying63).trans (by kernel_rfl);obtain ⟨v0,v1,v2,rfl⟩:∃ v0 v1 v2,cs=[v0,v1,v2]:=by
   match cs,hl with
   | [v0,v1,v2],_=>exact ⟨_,_,_,rfl⟩
  obtain ⟨B,hs,hf⟩:=h.flds Tryz.underlying63 3 (by kernel_rfl);simp only [List.range,List.range.loop,List.map_cons,List.map_nil,List.sum_cons,List.sum_nil] at hs;have hp:=h.pos;have f0:Rd enc W (B 0) 9 [v0]:=hf 0 9 0 1 rfl (by kernel_rfl);have f1:Rd enc W (B 1) 61 [v1]:=hf 1 61 1 1 rfl (by kernel_rfl);have f2:Rd enc W (B 2) 4 [v2]:=hf 2 4 2 1 rfl (by kernel_rfl);obtain ⟨n,e0,hn⟩:=f0.str;obtain ⟨nn,e2⟩:=f2.bool;have hp1:=f1.pos;obtain ⟨a,l,c,el,e1,hk,hm⟩:=f1.slice2 hB Tryz.underlying61 (n:=3) (by kernel_rfl) (by omega) 63 (R:=RTypE W) typW fun M cs hM he hl=>by
   obtain ⟨x,n,a,l,c,nn,rfl,hn,hx,hm⟩:=ih M (by omega) hB (by omega) he;refine ⟨x,fun v hv=>?_,⟨n,a,l,c,nn,rfl,hx⟩,hm⟩;simp only [mc_,nn_,or_false] at hv;rcases hv with rfl|rfl|rfl<;>first|rfl|(show ByteArray.size _<=_;omega)
  simp only [List.cons.injEq,and_true] at e0 e1 e2;subst e0 e1 e2;refine ⟨.mk n el nn,n,a,l,c,nn,rfl,by omega,b_M.2 ⟨rfl,rfl,hk⟩,?_⟩;simp only [typW,j_U];omega
theorem o_D (hB:W.heap.size<=DB.B)(hN:N<=4194304)(h:Rd enc W N 253 cs)(hl:cs.length=4):∃ x,(∀ v∈cs,a_v v)/\RArgm W x cs/\argW x<=N:=by
 obtain ⟨v0,v1,v2,v3,rfl⟩:∃ v0 v1 v2 v3,cs=[v0,v1,v2,v3]:=by
  match cs,hl with
  | [v0,v1,v2,v3],_=>exact ⟨_,_,_,_,rfl⟩
 obtain ⟨B,hs,hf⟩:=h.flds Tryz.underlying253 2 (by kernel_rfl);simp only [List.range,List.range.loop,List.map_cons,List.map_nil,List.sum_cons,List.sum_nil] at hs;have hp:=h.pos;have f0:Rd enc W (B 0) 9 [v0]:=hf 0 9 0 1 rfl (by kernel_rfl);have f1:Rd enc W (B 1) 115 [v1,v2,v3]:=hf 1 115 1 3 rfl (by kernel_rfl);obtain ⟨s0,e0,z0⟩:=f0.str;obtain ⟨x1,k1,q1,a1,l1,c1,e1,z1,r1,m1⟩:=n_Z _ hB (by omega) f1;simp only [List.cons.injEq,and_true] at e0 e1;subst e0;obtain ⟨rfl,rfl,rfl⟩:=e1;refine ⟨⟨s0,x1⟩,fun v hv=>?_,⟨k1,q1,a1,l1,c1,rfl,r1⟩,by simp only [argW];omega⟩;simp only [mc_,nn_,or_false] at hv;rcases hv with rfl|rfl|rfl|rfl<;>first|rfl|(show ByteArray.size _<=_;omega)
theorem l_b (hB:W.heap.size<=DB.B)(hN:N<=4194304)(h:Rd enc W N 76 cs):∃ a l c xs,cs=[.slice a l c]/\c_1 W a l c xs/\(xs.map argW).sum<=N-1:=
 h.slice2 hB Tryz.underlying76 (n:=4) (by kernel_rfl) hN 253 argW fun M cs hM he hl=>o_D hB (by omega) he hl
theorem o_6 (hB:W.heap.size<=DB.B)(hN:N<=4194304)(h:Rd enc W N 87 cs)(hl:cs.length=2):∃ x,(∀ v∈cs,a_v v)/\RDir W x cs/\dirW x<=N:=by
 obtain ⟨v0,v1,rfl⟩:∃ v0 v1,cs=[v0,v1]:=by
  match cs,hl with
  | [v0,v1],_=>exact ⟨_,_,rfl⟩
 obtain ⟨B,hs,hf⟩:=h.flds Tryz.underlying87 2 (by kernel_rfl);simp only [List.range,List.range.loop,List.map_cons,List.map_nil,List.sum_cons,List.sum_nil] at hs;have hp:=h.pos;have f0:Rd enc W (B 0) 9 [v0]:=hf 0 9 0 1 rfl (by kernel_rfl);have f1:Rd enc W (B 1) 76 [v1]:=hf 1 76 1 1 rfl (by kernel_rfl);obtain ⟨s0,e0,z0⟩:=f0.str;obtain ⟨a1,l1,c1,x1,e1,r1,m1⟩:=l_b hB (by omega) f1;simp only [List.cons.injEq,and_true] at e0 e1;subst e0;subst e1;refine ⟨⟨s0,x1⟩,fun v hv=>?_,⟨a1,l1,c1,rfl,r1⟩,by simp only [dirW,argsW];omega⟩;simp only [mc_,nn_,or_false] at hv;rcases hv with rfl|rfl<;>first|rfl|(show ByteArray.size _<=_;omega)
theorem c_Z (hB:W.heap.size<=DB.B)(hN:N<=4194304)(h:Rd enc W N 55 cs):∃ a l c xs,cs=[.slice a l c]/\RDirs W a l c xs/\(xs.map dirW).sum<=N-1:=
 h.slice2 hB Tryz.underlying55 (n:=2) (by kernel_rfl) hN 87 dirW fun M cs hM he hl=>o_6 hB (by omega) he hl
theorem p_a:∀ (N:Nat) {cs:List Value},W.heap.size<=DB.B->N<=4194304->Rd enc W N 78 cs->cs.length=7->∃ x,(∀ v∈cs,a_v v)/\RSel W x cs/\selW x<=N:=by
 intro N;induction N using Nat.strongRecOn with
 | ind N ih=>
  intro cs hB hN h hl;obtain ⟨v0,v1,v2,v3,v4,v5,v6,rfl⟩:∃ v0 v1 v2 v3 v4 v5 v6,cs=[v0,v1,v2,v3,v4,v5,v6]:=by
   match cs,hl with
   | [v0,v1,v2,v3,v4,v5,v6],_=>exact ⟨_,_,_,_,_,_,_,rfl⟩
  obtain ⟨B,hs,hf⟩:=h.flds Tryz.underlying78 7 (by kernel_rfl);simp only [List.range,List.range.loop,List.map_cons,List.map_nil,List.sum_cons,List.sum_nil] at hs;have hp:=h.pos;have f0:Rd enc W (B 0) 3 [v0]:=hf 0 3 0 1 rfl (by kernel_rfl);have f1:Rd enc W (B 1) 9 [v1]:=hf 1 9 1 1 rfl (by kernel_rfl);have f2:Rd enc W (B 2) 9 [v2]:=hf 2 9 2 1 rfl (by kernel_rfl);have f3:Rd enc W (B 3) 9 [v3]:=hf 3 9 3 1 rfl (by kernel_rfl);have f4:Rd enc W (B 4) 76 [v4]:=hf 4 76 4 1 rfl (by kernel_rfl);have f5:Rd enc W (B 5) 55 [v5]:=hf 5 55 5 1 rfl (by kernel_rfl);have f6:Rd enc W (B 6) 56 [v6]:=hf 6 56 6 1 rfl (by kernel_rfl);obtain ⟨k0,e0⟩:=f0.int;obtain ⟨s1,e1,z1⟩:=f1.str;obtain ⟨s2,e2,z2⟩:=f2.str;obtain ⟨s3,e3,z3⟩:=f3.str;obtain ⟨a4,l4,c4,x4,e4,r4,m4⟩:=l_b hB (by omega) f4;obtain ⟨a5,l5,c5,x5,e5,r5,m5⟩:=c_Z hB (by omega) f5;have hp6:=f6.pos;obtain ⟨a6,l6,c6,x6,e6,r6,m6⟩:=f6.slice2 hB Tryz.underlying56 (n:=7) (by kernel_rfl) (by omega) 78 (R:=RSel W) selW fun M cs hM he hl=>ih M (by omega) hB (by omega) he hl;simp only [List.cons.injEq,and_true] at e0 e1 e2 e3 e4 e5 e6;subst e0 e1 e2 e3 e4 e5 e6;refine ⟨.mk k0 s1 s2 s3 x4 x5 x6,fun v hv=>?_,c_w.2 ⟨a4,l4,c4,a5,l5,c5,a6,l6,c6,rfl,r4,r5,r6⟩,?_⟩
  ·simp only [mc_,nn_,or_false] at hv;rcases hv with rfl|rfl|rfl|rfl|rfl|rfl|rfl<;>first|rfl|(show ByteArray.size _<=_;omega)
  ·simp only [selW,e_P,argsW,dirsW];omega
theorem m_2 (hB:W.heap.size<=DB.B)(hN:N<=4194304)(h:Rd enc W N 56 cs):∃ a l c xs,cs=[.slice a l c]/\RSels W a l c xs/\(xs.map selW).sum<=N-1:=
 h.slice2 hB Tryz.underlying56 (n:=7) (by kernel_rfl) hN 78 (R:=RSel W) selW fun M cs hM he hl=>p_a M hB (by omega) he hl
theorem o_9 (hB:W.heap.size<=DB.B)(hN:N<=4194304)(h:Rd enc W N 66 cs)(hl:cs.length=6):∃ x,(∀ v∈cs,a_v v)/\RVar W x cs/\varW x<=N:=by
 obtain ⟨v0,v1,v2,v3,v4,v5,rfl⟩:∃ v0 v1 v2 v3 v4 v5,cs=[v0,v1,v2,v3,v4,v5]:=by
  match cs,hl with
  | [v0,v1,v2,v3,v4,v5],_=>exact ⟨_,_,_,_,_,_,rfl⟩
 obtain ⟨B,hs,hf⟩:=h.flds Tryz.underlying66 4 (by kernel_rfl);simp only [List.range,List.range.loop,List.map_cons,List.map_nil,List.sum_cons,List.sum_nil] at hs;have hp:=h.pos;have f0:Rd enc W (B 0) 9 [v0]:=hf 0 9 0 1 rfl (by kernel_rfl);have f1:Rd enc W (B 1) 63 [v1,v2,v3]:=hf 1 63 1 3 rfl (by kernel_rfl);have f2:Rd enc W (B 2) 64 [v4]:=hf 2 64 4 1 rfl (by kernel_rfl);have f3:Rd enc W (B 3) 55 [v5]:=hf 3 55 5 1 rfl (by kernel_rfl);obtain ⟨s0,e0,z0⟩:=f0.str;obtain ⟨x1,n1,a1,l1,c1,nn1,e1,z1,r1,m1⟩:=m_3 _ hB (by omega) f1;obtain ⟨a2,l2,c2,x2,e2,r2,m2⟩:=k_y hB (by omega) f2;obtain ⟨a3,l3,c3,x3,e3,r3,m3⟩:=c_Z hB (by omega) f3;simp only [List.cons.injEq,and_true] at e0 e1 e2 e3;subst e0;obtain ⟨rfl,rfl,rfl⟩:=e1;subst e2;subst e3;refine ⟨⟨s0,x1,x2,x3⟩,fun v hv=>?_,⟨n1,a1,l1,c1,nn1,a2,l2,c2,a3,l3,c3,rfl,r1,r2,r3⟩,by simp only [varW,valsW,dirsW];omega⟩;simp only [mc_,nn_,or_false] at hv;rcases hv with rfl|rfl|rfl|rfl|rfl|rfl<;>first|rfl|(show ByteArray.size _<=_;omega)
theorem o_H (hB:W.heap.size<=DB.B)(hN:N<=4194304)(h:Rd enc W N 54 cs):∃ a l c xs,cs=[.slice a l c]/\RVars W a l c xs/\(xs.map varW).sum<=N-1:=
 h.slice2 hB Tryz.underlying54 (n:=6) (by kernel_rfl) hN 66 varW fun M cs hM he hl=>o_9 hB (by omega) he hl
theorem p_o (hB:W.heap.size<=DB.B)(hN:N<=4194304)(h:Rd enc W N 58 cs)(hl:cs.length=5):∃ x,(∀ v∈cs,a_v v)/\ROp W x cs/\opW x<=N:=by
 obtain ⟨v0,v1,v2,v3,v4,rfl⟩:∃ v0 v1 v2 v3 v4,cs=[v0,v1,v2,v3,v4]:=by
  match cs,hl with
  | [v0,v1,v2,v3,v4],_=>exact ⟨_,_,_,_,_,rfl⟩
 obtain ⟨B,hs,hf⟩:=h.flds Tryz.underlying58 5 (by kernel_rfl);simp only [List.range,List.range.loop,List.map_cons,List.map_nil,List.sum_cons,List.sum_nil] at hs;have hp:=h.pos;have f0:Rd enc W (B 0) 9 [v0]:=hf 0 9 0 1 rfl (by kernel_rfl);have f1:Rd enc W (B 1) 9 [v1]:=hf 1 9 1 1 rfl (by kernel_rfl);have f2:Rd enc W (B 2) 54 [v2]:=hf 2 54 2 1 rfl (by kernel_rfl);have f3:Rd enc W (B 3) 55 [v3]:=hf 3 55 3 1 rfl (by kernel_rfl);have f4:Rd enc W (B 4) 56 [v4]:=hf 4 56 4 1 rfl (by kernel_rfl);obtain ⟨s0,e0,z0⟩:=f0.str;obtain ⟨s1,e1,z1⟩:=f1.str;obtain ⟨a2,l2,c2,x2,e2,r2,m2⟩:=o_H hB (by omega) f2;obtain ⟨a3,l3,c3,x3,e3,r3,m3⟩:=c_Z hB (by omega) f3;obtain ⟨a4,l4,c4,x4,e4,r4,m4⟩:=m_2 hB (by omega) f4;simp only [List.cons.injEq,and_true] at e0 e1 e2 e3 e4;subst e0;subst e1;subst e2;subst e3;subst e4;refine ⟨⟨s0,s1,x2,x3,x4⟩,fun v hv=>?_,⟨a2,l2,c2,a3,l3,c3,a4,l4,c4,rfl,r2,r3,r4⟩,by simp only [opW,varsW,dirsW,e_P];omega⟩;simp only [mc_,nn_,or_false] at hv;rcases hv with rfl|rfl|rfl|rfl|rfl<;>first|rfl|(show ByteArray.size _<=_;omega)
theorem o_8 (hB:W.heap.size<=DB.B)(hN:N<=4194304)(h:Rd enc W N 27 cs):∃ a l c xs,cs=[.slice a l c]/\ROps W a l c xs/\(xs.map opW).sum<=N-1:=
 h.slice2 hB Tryz.underlying27 (n:=5) (by kernel_rfl) hN 58 opW fun M cs hM he hl=>p_o hB (by omega) he hl
theorem o_F (hB:W.heap.size<=DB.B)(hN:N<=4194304)(h:Rd enc W N 70 cs)(hl:cs.length=4):∃ x,(∀ v∈cs,a_v v)/\RFrag W x cs/\fragW x<=N:=by
 obtain ⟨v0,v1,v2,v3,rfl⟩:∃ v0 v1 v2 v3,cs=[v0,v1,v2,v3]:=by
  match cs,hl with
  | [v0,v1,v2,v3],_=>exact ⟨_,_,_,_,rfl⟩
 obtain ⟨B,hs,hf⟩:=h.flds Tryz.underlying70 4 (by kernel_rfl);simp only [List.range,List.range.loop,List.map_cons,List.map_nil,List.sum_cons,List.sum_nil] at hs;have hp:=h.pos;have f0:Rd enc W (B 0) 9 [v0]:=hf 0 9 0 1 rfl (by kernel_rfl);have f1:Rd enc W (B 1) 9 [v1]:=hf 1 9 1 1 rfl (by kernel_rfl);have f2:Rd enc W (B 2) 55 [v2]:=hf 2 55 2 1 rfl (by kernel_rfl);have f3:Rd enc W (B 3) 56 [v3]:=hf 3 56 3 1 rfl (by kernel_rfl);obtain ⟨s0,e0,z0⟩:=f0.str;obtain ⟨s1,e1,z1⟩:=f1.str;obtain ⟨a2,l2,c2,x2,e2,r2,m2⟩:=c_Z hB (by omega) f2;obtain ⟨a3,l3,c3,x3,e3,r3,m3⟩:=m_2 hB (by omega) f3;simp only [List.cons.injEq,and_true] at e0 e1 e2 e3;subst e0;subst e1;subst e2;subst e3;refine ⟨⟨s0,s1,x2,x3⟩,fun v hv=>?_,⟨a2,l2,c2,a3,l3,c3,rfl,r2,r3⟩,by simp only [fragW,dirsW,e_P];omega⟩;simp only [mc_,nn_,or_false] at hv;rcases hv with rfl|rfl|rfl|rfl<;>first|rfl|(show ByteArray.size _<=_;omega)
theorem n_B (hB:W.heap.size<=DB.B)(hN:N<=4194304)(h:Rd enc W N 28 cs):∃ a l c xs,cs=[.slice a l c]/\a_X W a l c xs/\(xs.map fragW).sum<=N-1:=
 h.slice2 hB Tryz.underlying28 (n:=4) (by kernel_rfl) hN 70 fragW fun M cs hM he hl=>o_F hB (by omega) he hl
theorem Rd.slen {t e:TypeId}(ht:Tryz.prog.underlying t=some (.slice e)){a:OA}{l c:Nat}(h:Rd enc W N t [.slice a l c]):l<=N:=by
 obtain ⟨f,d,pl,htr,hb⟩:=h;rcases DataW.trod_slice ht htr with ⟨he,-⟩|⟨a',len,cap,elems,rest,m,-, he,hx,-, hlc,-, hlen,-⟩
 ·simp at he;omega
 ·simp only [List.cons.injEq,and_true,Value.slice.injEq] at he;simp only [Prod.mk.injEq] at hx;obtain ⟨rfl,-⟩:=hx;simp only [Go.Proofs.YtmnhdjhlcgfpkaaGreat.Rows.uptoBulk] at hb;have hbl:=i_a (elems.map (·.1));rw [List.length_map,hlen] at hbl;omega
theorem n_C (hB:W.heap.size<=DB.B)(hN:N<=4194304)(h:Rd enc W N 30 cs):∃ (a0:OA) (l0 c0:Nat) (a1:OA) (l1 c1:Nat),∃ x0 x1,cs=[.slice a0 l0 c0,.slice a1 l1 c1]/\ROps W a0 l0 c0 x0/\a_X W a1 l1 c1 x1/\l0<=N/\l1<=N/\docW x0 x1<=N:=by
 have hl:cs.length=2:=(h.len Tryz.underlying30).trans (by kernel_rfl);obtain ⟨v0,v1,rfl⟩:∃ v0 v1,cs=[v0,v1]:=by
  match cs,hl with
  | [v0,v1],_=>exact ⟨_,_,rfl⟩
 obtain ⟨B,hs,hf⟩:=h.flds Tryz.underlying30 2 (by kernel_rfl);simp only [List.range,List.range.loop,List.map_cons,List.map_nil,List.sum_cons,List.sum_nil] at hs;have hp:=h.pos;have f0:Rd enc W (B 0) 27 [v0]:=hf 0 27 0 1 rfl (by kernel_rfl);have f1:Rd enc W (B 1) 28 [v1]:=hf 1 28 1 1 rfl (by kernel_rfl);obtain ⟨a0,l0,c0,x0,e0,r0,m0⟩:=o_8 hB (by omega) f0;obtain ⟨a1,l1,c1,x1,e1,r1,m1⟩:=n_B hB (by omega) f1;simp only [List.cons.injEq,and_true] at e0 e1;subst e0;subst e1;have t0:=f0.slen Tryz.underlying27;have t1:=f1.slen Tryz.underlying28;exact ⟨a0,l0,c0,a1,l1,c1,x0,x1,rfl,r0,r1,by omega,by omega,by unfold docW;omega⟩
end
end Go.VC
