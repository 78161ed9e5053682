/- Part of the proof of a law of a rule over documents (ReadA), where what the arguments hold is of bulk at most 1048576. -/
import Derived.JoinedCond
import Derived.Test.YtdakokhbeoohlaaGreatDoorBaseC
import Derived.Test.YtdakokhbeoohlaaGreatDoorRows
import Derived.ChangeArms
import Derived.DataReads
set_option linter.unusedVariables false
set_option linter.unusedSectionVars false
namespace Go.VC
open Go
theorem m_p {P:Program}{f:FuncId}{fn:Func}{s:ChangeSpec}{c:OpenClaim}
  (h0:(c.wf (OpenSpec.ofChange s))=true)
  (h1:(laidOutB P)=true)
  (h2:(mapsRowed P)=true)
  (h3:(fn.params.all (P.readableRec ·))=true)
  (h4:(namedTie P c.named s.vars)=true)
  (h5:(c.stops==[])=true)
  (h6:(P.stops==[])=true)
  (h7:(c.knobs==[])=true)
  (h8:(P.stopKnobs==[])=true)
  (h9:(c.inPlace==P.inPlace f)=true)
  (h10:(c.unfollowed==P.unfollowed f)=true)
  (h11:(c.recurses==P.recurses f)=true)
  (h12:(c.named==P.varsNamed f)=true)
  (h13:(c.maps==(fn.params.toList++s.plain.varTypes P).any (P.mapsRec ·))=true)
  (h14:(c.ifaces==(fn.params.toList++s.plain.varTypes P).any (P.ifacesRec ·))=true)
  (h15:(c.mapsOut==P.mapsAmong fn.resultTypes.toList)=true)
  (h16:(c.loops==(fn.params.toList++s.plain.varTypes P).any (P.loopsFrom ·))=true)
  (h17:(c.wideKeys==(fn.params.toList++s.plain.varTypes P++fn.resultTypes.toList).any (P.wideKeysFrom ·))=true)
  (h18:(s.vars.all (P.varReadable ·))=true)
  (h19:(fn.resultTypes.all (fun t=>P.readableRec t&&decide (t<P.types.size)))=true)
  (h20:(c.ifacesOut==fn.resultTypes.toList.any (P.ifacesRec ·))=true)
  (h21:(c.loopsOut==fn.resultTypes.toList.any (P.loopsFrom ·))=true)
  (h22:(c.plainKeys==P.plainKeys)=true)
  (h23:(c.shortTexts.isNone)=true)
  (h24:(P.stopsHeard)=true)
  (h25:(P.mayEnter)=true)
  (h26:(c.lifted==P.liftsFinal)=true)
  (h27:(P.make==some c.make)=true)
  (h28:c.domain.isEmpty=true) (k28:c.kinds=[])
  (h29:(c.pinned==c.pinnedBy)=true)
  (h30:(c.veiled==(fn.params.toList++s.plain.varTypes P++fn.resultTypes.toList).any (P.veiledRec ·))=true)
  (h31:(c.veiledFits P fn.params.toList (fn.params.toList++s.plain.varTypes P++fn.resultTypes.toList))=true):joinedFacts P f fn s c=true:=by
 unfold joinedFacts;simp only [Bool.and_eq_true,h28,k28,if_true];exact ⟨⟨⟨⟨⟨⟨⟨⟨⟨⟨⟨⟨⟨⟨⟨⟨⟨⟨⟨⟨⟨⟨⟨⟨⟨⟨⟨⟨⟨⟨⟨h0,h1⟩,h2⟩,h3⟩,h4⟩,h5⟩,h6⟩,h7⟩,h8⟩,h9⟩,h10⟩,h11⟩,h12⟩,h13⟩,h14⟩,h15⟩,h16⟩,h17⟩,h18⟩,h19⟩,h20⟩,h21⟩,h22⟩,h23⟩,h24⟩,h25⟩,h26⟩,h27⟩,rfl⟩,h29⟩,h30⟩,h31⟩
end Go.VC
namespace Go.VC
open Go Go.Proofs
variable [DB]
theorem l_t {w:World}{a:Addr}{v:Value}(h:w.cell? a=some v):∃ T,At w T a v:=by
 unfold World.cell? at h;split at h
 ·rename_i c T fr ho;split at h
  ·cases h
  ·rename_i hs;exact ⟨T,c,fr,ho,by simpa using hs,h⟩
 ·cases h
theorem f_8 {w:World}(hB:w.heap.size<=DB.B){T:TypeId}{p:Addr}:∀ (cs:List Value) (j:Nat),(∀ k u,cs[k]? =some u->w.cell? (adj p (j+k))=some u/\a_v u)->a_x w T p j cs
 | [],_,_=>trivial
 | v::l,j,h=>by
  obtain ⟨T',ha⟩:=l_t (h 0 v rfl).1;exact ⟨⟨T',.inr (Nat.lt_of_lt_of_le ha.lt hB),ha⟩,(h 0 v rfl).2,f_8 hB l (j+1) fun k u hu=>by
   have:=h (k+1) u (by simpa using hu)
   rwa [show j+(k+1)=j+1+k by omega] at this⟩
theorem k_S {w:World}(hB:w.heap.size<=DB.B){T:TypeId}{p:Addr}{n:Nat}{cs:List Value}(h:w.cells? 0 p n=some cs)(hs:∀ v∈cs,a_v v):a_x w T p 0 cs:=by
 obtain ⟨-, hl,hc⟩:=World.cells?_some h;refine f_8 hB cs 0 fun k u hu=>⟨?_,hs u (mg_ hu)⟩;rw [Nat.zero_add,c_2,hc k (by rw [<- hl];exact (List.getElem?_eq_some_iff.1 hu).1)];exact hu
theorem k_m {α:Type}{P:Nat->α->Prop}:∀ m:Nat,(∀ i,i<m->∃ x,P i x)->∃ xs:List α,xs.length=m/\∀ i x,xs[i]? =some x->P i x
 | 0,_=>⟨[],rfl,fun i x h=>by simp at h⟩
 | m+1,h=>by
  obtain ⟨xs,h1,h2⟩:=k_m m fun i hi=>h i (by omega);obtain ⟨x,hx⟩:=h m (by omega);refine ⟨xs++[x],by simp [h1],fun i y hy=>?_⟩;rcases Nat.lt_or_ge i xs.length with hi|hi
  ·rw [List.getElem?_append_left hi] at hy;exact h2 i y hy
  ·rw [List.getElem?_append_right hi] at hy;have:i-xs.length=0:=by
    rcases Nat.eq_zero_or_pos (i-xs.length) with h0|h0
    ·exact h0
    ·rw [List.getElem?_eq_none (by simp;omega)] at hy;cases hy
   rw [this] at hy;obtain rfl:x=y:=by simpa using hy
   have:i=m:=by omega
   rw [this];exact hx
section
variable {H:Type} {enc:TypeId × Value->H} {W:World} {N:Nat} {t:TypeId} {cs:List Value}
theorem k_Q (d:DataW H):1<=Go.Proofs.YtdakokhbeoohlaaGreatDoor.Rows.uptoBulk d:=by
 cases d with
 | lit l=>cases l<;>simp [Go.Proofs.YtdakokhbeoohlaaGreatDoor.Rows.uptoBulk]
 | nil=>simp [Go.Proofs.YtdakokhbeoohlaaGreatDoor.Rows.uptoBulk]
 | ptr d=>simp [Go.Proofs.YtdakokhbeoohlaaGreatDoor.Rows.uptoBulk]
 | slice elems spare=>simp [Go.Proofs.YtdakokhbeoohlaaGreatDoor.Rows.uptoBulk]
 | agg parts=>simp [Go.Proofs.YtdakokhbeoohlaaGreatDoor.Rows.uptoBulk]
 | iface t d=>simp [Go.Proofs.YtdakokhbeoohlaaGreatDoor.Rows.uptoBulk]
 | map entries=>simp [Go.Proofs.YtdakokhbeoohlaaGreatDoor.Rows.uptoBulk]
 | held h=>simp [Go.Proofs.YtdakokhbeoohlaaGreatDoor.Rows.uptoBulk]
theorem f_S {d:DataW H}{l:List (DataW H)}(h:d∈l):Go.Proofs.YtdakokhbeoohlaaGreatDoor.Rows.uptoBulk d<=Go.Proofs.YtdakokhbeoohlaaGreatDoor.Rows.uptoBulkAll l:=by
 induction l with
 | nil=>cases h
 | cons x r ih=>
  simp only [Go.Proofs.YtdakokhbeoohlaaGreatDoor.Rows.uptoBulkAll];rcases mc_.1 h with rfl|e
  ·omega
  ·have:=ih e;omega
theorem i_a (l:List (DataW H)):l.length<=Go.Proofs.YtdakokhbeoohlaaGreatDoor.Rows.uptoBulkAll l:=by
 induction l with
 | nil=>simp
 | cons x r ih=>
  have:=k_Q x;simp only [Go.Proofs.YtdakokhbeoohlaaGreatDoor.Rows.uptoBulkAll,List.length_cons];omega
def Rd (enc:TypeId × Value->H)(W:World)(N:Nat)(t:TypeId)(cs:List Value):Prop:=
 ∃ (n:Nat) (d:DataW H) (pl:List MemPlace),DataW.trod enc Tryz.prog W 0 (fun _=>true) true n t cs=some (d,pl)/\Go.Proofs.YtdakokhbeoohlaaGreatDoor.Rows.uptoBulk d<=N
theorem Rd.pos (h:Rd enc W N t cs):1<=N:=by
 obtain ⟨n,d,pl,-, hb⟩:=h;have:=k_Q d;omega
theorem Rd.str (h:Rd enc W N 9 cs):∃ s,cs=[.string s]/\s.size<=N:=by
 obtain ⟨n,d,pl,ht,hb⟩:=h;obtain ⟨s,rfl,hx,-⟩:=DataW.trod_string (by kernel_rfl) ht;refine ⟨s,rfl,?_⟩;simp only [Prod.mk.injEq] at hx;rw [hx.1] at hb;simp only [Go.Proofs.YtdakokhbeoohlaaGreatDoor.Rows.uptoBulk,Array.length_toList] at hb;have:s.size=s.data.size:=rfl;omega
theorem Rd.int (h:Rd enc W N 3 cs):∃ k,cs=[.int .i64 k]:=by
 obtain ⟨n,d,pl,ht,hb⟩:=h;obtain ⟨k,rfl,-, -⟩:=DataW.trod_int (k:=.i64) (by kernel_rfl) ht;exact ⟨k,rfl⟩
theorem Rd.bool (h:Rd enc W N 4 cs):∃ b,cs=[.bool b]:=by
 obtain ⟨n,d,pl,ht,hb⟩:=h;obtain ⟨b,rfl,-⟩:=DataW.trod_bool (by kernel_rfl) ht;exact ⟨b,rfl⟩
theorem Rd.slice {e:TypeId}(hB:W.heap.size<=DB.B)(ht:Tryz.prog.underlying t=some (.slice e)){n:Nat}(hc:Tryz.prog.cellsOf e=n)(h:Rd enc W N t cs)(hN:N<=4194304)(T:TypeId){α:Type}{R:α->List Value->Prop}
  (el:∀ cs,Rd enc W (N-1) e cs->cs.length=n->∃ x,(∀ v∈cs,a_v v)/\R x cs):∃ (a:OA) (l c:Nat) (xs:List α),cs=[.slice a l c]/\SlL W T n R a l c xs:=by
 obtain ⟨f,d,pl,htr,hb⟩:=h;rcases DataW.trod_slice ht htr with ⟨rfl,-⟩|⟨a,len,cap,elems,rest,m,-, rfl,hx,-, hlc,-, hlen,hel,-⟩
 ·exact ⟨none,0,0,[],rfl,rfl,by omega,by omega,fun i x h=>by simp at h⟩
 ·simp only [Prod.mk.injEq] at hx;obtain ⟨rfl,-⟩:=hx;simp only [Go.Proofs.YtdakokhbeoohlaaGreatDoor.Rows.uptoBulk] at hb;have hbl:=i_a (elems.map (·.1));rw [List.length_map,hlen] at hbl;have each:∀ i,i<len->∃ x,∃ cs,a_x W T (a.add (i*n)) 0 cs/\R x cs:=by
   intro i hi;have hi':=hel i hi;rw [hc,List.getElem?_eq_getElem (by omega)] at hi';obtain ⟨cs',hcells,htr'⟩:=Option.bind_eq_some_iff.1 hi';have hlc':=(World.cells?_some hcells).2.1;have hmem:(elems[i]'(by omega)).1∈elems.map (·.1):=mm_.2 ⟨_,List.getElem_mem _,rfl⟩;have hbp:=f_S hmem;obtain ⟨x,hs,hr⟩:=el cs' ⟨m,(elems[i]'(by omega)).1,(elems[i]'(by omega)).2,htr',by omega⟩ hlc';exact ⟨x,cs',k_S hB hcells hs,hr⟩
  obtain ⟨xs,hxl,hxs⟩:=k_m len each;exact ⟨some a,len,cap,xs,rfl,hxl.symm,hlc,by omega,fun i x hi=>⟨a,rfl,hxs i x hi⟩⟩
theorem n_0 {α:Type}(f:α->Nat):∀ (xs:List α) (ds:List (DataW H)),xs.length=ds.length->(∀ (i:Nat) (x:α) (d:DataW H),xs[i]? =some x->ds[i]? =some d->f x<=Go.Proofs.YtdakokhbeoohlaaGreatDoor.Rows.uptoBulk d)->(xs.map f).sum<=Go.Proofs.YtdakokhbeoohlaaGreatDoor.Rows.uptoBulkAll ds
 | [],[],_,_=>by simp
 | x::xs,d::ds,hl,h=>by
  have h1:=h 0 x d rfl rfl;have h2:=n_0 f xs ds (by simpa using hl) fun i y e hy he=>h (i+1) y e (by simpa using hy) (by simpa using he);simp only [List.map_cons,List.sum_cons,Go.Proofs.YtdakokhbeoohlaaGreatDoor.Rows.uptoBulkAll];omega
 | [],_::_,hl,_=>by simp at hl
 | _::_,[],hl,_=>by simp at hl
theorem Rd.slice2 {e:TypeId}(hB:W.heap.size<=DB.B)(ht:Tryz.prog.underlying t=some (.slice e)){n:Nat}(hc:Tryz.prog.cellsOf e=n)(h:Rd enc W N t cs)(hN:N<=4194304)(T:TypeId){α:Type}{R:α->List Value->Prop}(f:α->Nat)
  (el:∀ M cs,M<=N-1->Rd enc W M e cs->cs.length=n->∃ x,(∀ v∈cs,a_v v)/\R x cs/\f x<=M):∃ (a:OA) (l c:Nat) (xs:List α),cs=[.slice a l c]/\SlL W T n R a l c xs/\(xs.map f).sum<=N-1:=by
 obtain ⟨g,d,pl,htr,hb⟩:=h;rcases DataW.trod_slice ht htr with ⟨rfl,-⟩|⟨a,len,cap,elems,rest,m,-, rfl,hx,-, hlc,-, hlen,hel,-⟩
 ·exact ⟨none,0,0,[],rfl,⟨rfl,by omega,by omega,fun i x h=>by simp at h⟩,by simp⟩
 ·simp only [Prod.mk.injEq] at hx;obtain ⟨rfl,-⟩:=hx;simp only [Go.Proofs.YtdakokhbeoohlaaGreatDoor.Rows.uptoBulk] at hb;have hbl:=i_a (elems.map (·.1));rw [List.length_map,hlen] at hbl;have each:∀ i,i<len->∃ x,(∃ cs,a_x W T (a.add (i*n)) 0 cs/\R x cs)/\∀ d,(elems.map (·.1))[i]? =some d->f x<=Go.Proofs.YtdakokhbeoohlaaGreatDoor.Rows.uptoBulk d:=by
   intro i hi;have hi':=hel i hi;rw [hc,List.getElem?_eq_getElem (by omega)] at hi';obtain ⟨cs',hcells,htr'⟩:=Option.bind_eq_some_iff.1 hi';have hlc':=(World.cells?_some hcells).2.1;have hmem:(elems[i]'(by omega)).1∈elems.map (·.1):=mm_.2 ⟨_,List.getElem_mem _,rfl⟩;have hbp:=f_S hmem;obtain ⟨x,hs,hr,hf⟩:=el (Go.Proofs.YtdakokhbeoohlaaGreatDoor.Rows.uptoBulk (elems[i]'(by omega)).1) cs' (by omega) ⟨m,(elems[i]'(by omega)).1,(elems[i]'(by omega)).2,htr',Nat.le_refl _⟩ hlc';refine ⟨x,⟨cs',k_S hB hcells hs,hr⟩,fun d hd=>?_⟩;rw [List.getElem?_map,List.getElem?_eq_getElem (by omega)] at hd;obtain rfl:(elems[i]'(by omega)).1=d:=by simpa using hd
   exact hf
  obtain ⟨xs,hxl,hxs⟩:=k_m len each;refine ⟨some a,len,cap,xs,rfl,⟨hxl.symm,hlc,by omega,fun i x hi=>⟨a,rfl,(hxs i x hi).1⟩⟩,?_⟩;have:=n_0 f xs (elems.map (·.1)) (by rw [List.length_map,hlen,hxl]) fun i x d hx hd=>(hxs i x hx).2 d hd;omega
theorem Rd.fld {fs:Array Field}(ht:Tryz.prog.underlying t=some (.struct fs))(h:Rd enc W N t cs)(i:Nat)(u:TypeId)(o k:Nat)(hf:(fs[i]?).map (fun f=>(f.type,f.offset))=some (u,o))(hc:Tryz.prog.cellsOf u=k):Rd enc W (N-1) u ((cs.drop o).take k):=by
 obtain ⟨f,d,pl,htr,hb⟩:=h;obtain ⟨xs,n,-, hx,-, hlen,hfs⟩:=DataW.trod_struct ht htr;simp only [Prod.mk.injEq] at hx;obtain ⟨rfl,-⟩:=hx;simp only [Go.Proofs.YtdakokhbeoohlaaGreatDoor.Rows.uptoBulk] at hb;obtain ⟨fi,hfi,he⟩:=Option.map_eq_some_iff.1 hf;simp only [Prod.mk.injEq] at he;obtain ⟨rfl,rfl⟩:=he;have hi:i<fs.size:=(Array.getElem?_eq_some_iff.1 hfi).1;have:=hfs i fi hfi;rw [hc,List.getElem?_eq_getElem (by omega)] at this;have hmem:(xs[i]'(by omega)).1∈xs.map (·.1):=mm_.2 ⟨_,List.getElem_mem _,rfl⟩;have hbp:=f_S hmem;exact ⟨n,(xs[i]'(by omega)).1,(xs[i]'(by omega)).2,this,by omega⟩
theorem Rd.len {fs:Array Field}(ht:Tryz.prog.underlying t=some (.struct fs))(h:Rd enc W N t cs):cs.length=Tryz.prog.cellsOf t:=by
 obtain ⟨f,d,pl,htr,hb⟩:=h;obtain ⟨xs,n,-, hx,hl,-⟩:=DataW.trod_struct ht htr;exact hl
end
end Go.VC
