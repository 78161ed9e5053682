/- Part of the proof of a law of a rule over documents (JpH), where what the arguments hold is of bulk at most 1048576. -/
import Derived.Test.YtdakokhbeoohlaaGreatDoorReadA
import Derived.Test.YtdakokhbeoohlaaGreatDoorJpA
import Derived.Shelf.Strconv.Itoa3
import Derived.Test.YtdakokhbeoohlaaGreatDoorProg
import Derived.Test.YtdakokhbeoohlaaGreatDoorJpE
import Derived.Test.YtdakokhbeoohlaaGreatDoorRows
import Derived.ProofKit
import Derived.OpenShut
import Derived.JoinedCond
import Derived.ChangeStays
import Derived.ReadAgain
import Derived.Deep.DeepHandedRow
import Derived.Lib.LaidTab
set_option linter.unusedVariables false
set_option linter.unusedSectionVars false
namespace Go.VC
open Go Go.Proofs
variable [DB]
section
variable {H:Type} {enc:TypeId × Value->H} {W:World} {N:Nat} {cs:List Value}
theorem n_n (xs:List (DataW H)):((List.range xs.length).map fun i=>match xs[i]? with |some d=>Go.Proofs.YtdakokhbeoohlaaGreatDoor.Rows.uptoBulk d|none=>0).sum<=Go.Proofs.YtdakokhbeoohlaaGreatDoor.Rows.uptoBulkAll xs:=by
 induction xs with
 | nil=>simp
 | cons x r ih=>
  rw [List.length_cons,List.range_succ_eq_map];simp only [List.map_cons,List.sum_cons,List.map_map,Go.Proofs.YtdakokhbeoohlaaGreatDoor.Rows.uptoBulkAll];exact Nat.add_le_add (Nat.le_refl _) ih
theorem Rd.flds {t:TypeId}{fs:Array Field}(ht:Tryz.prog.underlying t=some (.struct fs))(k:Nat)(hk:fs.size=k)(h:Rd enc W N t cs):∃ B:Nat->Nat,((List.range k).map B).sum<=N-1/\
  ∀ (i:Nat) (u:TypeId) (o k:Nat),(fs[i]?).map (fun f=>(f.type,f.offset))=some (u,o)->Tryz.prog.cellsOf u=k->Rd enc W (B i) u ((cs.drop o).take k):=by
 obtain ⟨f,d,pl,htr,hb⟩:=h;obtain ⟨xs,n,-, hx,-, hlen,hfs⟩:=DataW.trod_struct ht htr;simp only [Prod.mk.injEq] at hx;obtain ⟨rfl,-⟩:=hx;simp only [Go.Proofs.YtdakokhbeoohlaaGreatDoor.Rows.uptoBulk] at hb;have hall:=n_n (xs.map (·.1));refine ⟨fun i=>match (xs.map (·.1))[i]? with |some d=>Go.Proofs.YtdakokhbeoohlaaGreatDoor.Rows.uptoBulk d|none=>0,?_,fun i u o k hf hc=>?_⟩
 ·rw [List.length_map,hlen,hk] at hall;omega
 ·obtain ⟨fi,hfi,he⟩:=Option.map_eq_some_iff.1 hf;simp only [Prod.mk.injEq] at he;obtain ⟨rfl,rfl⟩:=he;have hi:i<fs.size:=(Array.getElem?_eq_some_iff.1 hfi).1;have:=hfs i fi hfi;rw [hc,List.getElem?_eq_getElem (by omega)] at this;refine ⟨n,(xs[i]'(by omega)).1,(xs[i]'(by omega)).2,this,?_⟩;have hi':(xs.map (·.1))[i]? =some (xs[i]'(by omega)).1:=by
   rw [List.getElem?_map,List.getElem?_eq_getElem (by omega)];rfl
  simp only [hi'];exact Nat.le_refl _
theorem z_K {t e:TypeId}(hB:W.heap.size<=DB.B)(ht:Tryz.prog.underlying t=some (.slice e)){n:Nat}(hc:Tryz.prog.cellsOf e=n)(h:Rd enc W N t cs)(hN:N<=4194304)(T:TypeId){α:Type}{R:α->List Value->Prop}(f:α->Nat)
  (el:∀ M cs,M<=N-1->Rd enc W M e cs->cs.length=n->∃ x,(∀ v∈cs,a_v v)/\R x cs/\f x<=M-1):∃ (a:OA) (l c:Nat) (xs:List α),cs=[.slice a l c]/\SlL W T n R a l c xs/\xs.length+(xs.map f).sum<=N:=by
 have hp:=h.pos;obtain ⟨a,l,c,xs,h1,h2,h3⟩:=h.slice2 hB ht hc hN T (R:=R) (fun x=>f x+1) fun M cs hM he hl=>by
  obtain ⟨x,g1,g2,g3⟩:=el M cs hM he hl;have:=he.pos;exact ⟨x,g1,g2,by omega⟩
 refine ⟨a,l,c,xs,h1,h2,?_⟩;have:∀ ys:List α,(ys.map fun x=>f x+1).sum=ys.length+(ys.map f).sum:=fun ys=>by
  induction ys with
  | nil=>rfl
  | cons y r ih=>
   simp only [List.map_cons,List.sum_cons,List.length_cons,ih];omega
 rw [this] at h3;omega
theorem k_z (hB:W.heap.size<=DB.B)(hN:N<=4194304)(h:Rd enc W N 24 cs):∃ a l c xs,cs=[.slice a l c]/\RStrs W a l c xs/\xs.length<=N:=by
 obtain ⟨a,l,c,xs,h1,h2,h3⟩:=z_K hB Tryz.underlying24 (n:=1) (by kernel_rfl) h hN 9 (R:=fun s cs=>cs=[Value.string s]) (fun _=>0) fun M cs hM he _=>by
  obtain ⟨s,rfl,hs⟩:=he.str;refine ⟨s,fun v hv=>?_,rfl,Nat.zero_le _⟩;obtain rfl:v=.string s:=by simpa using hv
  show s.size<=4194304;omega
 exact ⟨a,l,c,xs,h1,h2,by omega⟩
theorem z_H (hB:W.heap.size<=DB.B)(hN:N<=4194304)(h:Rd enc W N 32 cs):∃ a l c xs,cs=[.slice a l c]/\RInts W a l c xs/\xs.length<=N:=by
 obtain ⟨a,l,c,xs,h1,h2,h3⟩:=z_K hB Tryz.underlying32 (n:=1) (by kernel_rfl) h hN 44 (R:=RI) (fun _=>0) fun M cs hM he _=>by
  obtain ⟨s,rfl⟩:=he.int;refine ⟨s,fun v hv=>?_,rfl,Nat.zero_le _⟩;obtain rfl:v=.int .i64 s:=by simpa using hv
  rfl
 exact ⟨a,l,c,xs,h1,h2,by omega⟩
theorem y_3 {v0 v1:Value}(h:Rd enc W N 34 [v0,v1]):∃ x:JLim,[v0,v1]=[.bool x.is,.int .i64 x.n]:=by
 have f0:Rd enc W (N-1) 4 [v0]:=h.fld Tryz.underlying34 0 4 0 1 rfl (by kernel_rfl);have f1:Rd enc W (N-1) 3 [v1]:=h.fld Tryz.underlying34 1 3 1 1 rfl (by kernel_rfl);obtain ⟨b,e0⟩:=f0.bool;obtain ⟨k,e1⟩:=f1.int;simp only [List.cons.injEq,and_true] at e0 e1;subst e0 e1;exact ⟨⟨b,k⟩,rfl⟩
theorem E_z {v0 v1:Value}(h:Rd enc W N 41 [v0,v1]):∃ x:JMo,[v0,v1]=[.int .i64 x.k,.int .i64 x.node]:=by
 have f0:Rd enc W (N-1) 3 [v0]:=h.fld Tryz.underlying41 0 3 0 1 rfl (by kernel_rfl);have f1:Rd enc W (N-1) 3 [v1]:=h.fld Tryz.underlying41 1 3 1 1 rfl (by kernel_rfl);obtain ⟨b,e0⟩:=f0.int;obtain ⟨k,e1⟩:=f1.int;simp only [List.cons.injEq,and_true] at e0 e1;subst e0 e1;exact ⟨⟨b,k⟩,rfl⟩
theorem D_0 {v0 v1:Value}(hB:W.heap.size<=DB.B)(hN:N<=4194304)(h:Rd enc W N 36 [v0,v1]):∃ (x:JTak) (a:OA) (l c:Nat),[v0,v1]=[.bool x.is,.slice a l c]/\RStrs W a l c x.ts/\x.ts.length<=N:=by
 have hp:=h.pos;have f0:Rd enc W (N-1) 4 [v0]:=h.fld Tryz.underlying36 0 4 0 1 rfl (by kernel_rfl);have f1:Rd enc W (N-1) 24 [v1]:=h.fld Tryz.underlying36 1 24 1 1 rfl (by kernel_rfl);obtain ⟨b,e0⟩:=f0.bool;obtain ⟨a,l,c,xs,e1,h1,h2⟩:=k_z hB (by omega) f1;simp only [List.cons.injEq,and_true] at e0 e1;subst e0 e1;exact ⟨⟨b,xs⟩,a,l,c,rfl,h1,by show xs.length<=N;omega⟩
theorem B_r:∀ xs:List JV,szL xs=(xs.map szJ).sum
 | []=>rfl
 | x::l=>by simp [szL,B_r l]
theorem E_y:∀ (N:Nat) {cs:List Value},W.heap.size<=DB.B->N<=4194304->Rd enc W N 27 cs->∃ x:JV,(∀ v∈cs,a_v v)/\RJV W x cs/\szJ x<=N:=by
 intro N;induction N using Nat.strongRecOn with
 | ind N ih=>
  intro cs hB hN h;have hl:cs.length=6:=(h.len Tryz.underlying27).trans (by kernel_rfl);obtain ⟨v0,v1,v2,v3,v4,v5,rfl⟩:∃ v0 v1 v2 v3 v4 v5,cs=[v0,v1,v2,v3,v4,v5]:=by
   match cs,hl with
   | [v0,v1,v2,v3,v4,v5],_=>exact ⟨_,_,_,_,_,_,rfl⟩
  obtain ⟨B,hs,hf⟩:=h.flds Tryz.underlying27 6 (by kernel_rfl);simp only [List.range,List.range.loop,List.map_cons,List.map_nil,List.sum_cons,List.sum_nil] at hs;have hp:=h.pos;have f0:Rd enc W (B 0) 3 [v0]:=hf 0 3 0 1 rfl (by kernel_rfl);have f1:Rd enc W (B 1) 4 [v1]:=hf 1 4 1 1 rfl (by kernel_rfl);have f2:Rd enc W (B 2) 3 [v2]:=hf 2 3 2 1 rfl (by kernel_rfl);have f3:Rd enc W (B 3) 9 [v3]:=hf 3 9 3 1 rfl (by kernel_rfl);have f4:Rd enc W (B 4) 24 [v4]:=hf 4 24 4 1 rfl (by kernel_rfl);have f5:Rd enc W (B 5) 25 [v5]:=hf 5 25 5 1 rfl (by kernel_rfl);obtain ⟨k,e0⟩:=f0.int;obtain ⟨b,e1⟩:=f1.bool;obtain ⟨n,e2⟩:=f2.int;obtain ⟨t,e3,ht⟩:=f3.str;obtain ⟨a,l,c,ns,e4,hns,-⟩:=k_z hB (by omega) f4;have p0:=f0.pos;have p5:=f5.pos;obtain ⟨a',l',c',xs,e5,hxs,hm⟩:=f5.slice2 hB Tryz.underlying25 (n:=6) (by kernel_rfl) (by omega) 27 (R:=RJV W) szJ fun M cs hM he hl=>ih M (by omega) hB (by omega) he;simp only [List.cons.injEq,and_true] at e0 e1 e2 e3 e4 e5;subst e0 e1 e2 e3 e4 e5;refine ⟨.mk k b n t ns xs,fun v hv=>?_,w_8.2 ⟨a,l,c,a',l',c',rfl,by omega,hns,hxs⟩,?_⟩
  ·simp only [mc_,nn_,or_false] at hv;rcases hv with rfl|rfl|rfl|rfl|rfl|rfl<;>first|rfl|(show ByteArray.size _<=_;omega)
  ·simp only [szJ,B_r];omega
theorem D_Z (hB:W.heap.size<=DB.B)(hN:N<=4194304)(h:Rd enc W N 25 cs):∃ a l c xs,cs=[.slice a l c]/\RJVs W a l c xs/\szL xs<=N:=by
 obtain ⟨a,l,c,xs,h1,h2,h3⟩:=h.slice2 hB Tryz.underlying25 (n:=6) (by kernel_rfl) (by omega) 27 (R:=RJV W) szJ fun M cs hM he hl=>E_y M hB (by omega) he;exact ⟨a,l,c,xs,h1,h2,by rw [B_r];omega⟩
theorem D_N (hB:W.heap.size<=DB.B)(hN:N<=4194304)(h:Rd enc W N 90 cs)(hl:cs.length=2):∃ x,(∀ v∈cs,a_v v)/\RJPr x cs/\True:=by
 obtain ⟨v0,v1,rfl⟩:∃ v0 v1,cs=[v0,v1]:=by
  match cs,hl with
  | [v0,v1],_=>exact ⟨_,_,rfl⟩
 obtain ⟨B,hs,hf⟩:=h.flds Tryz.underlying90 2 (by kernel_rfl);simp only [List.range,List.range.loop,List.map_cons,List.map_nil,List.sum_cons,List.sum_nil] at hs;have hp:=h.pos;have f0:Rd enc W (B 0) 9 [v0]:=hf 0 9 0 1 rfl (by kernel_rfl);have f1:Rd enc W (B 1) 3 [v1]:=hf 1 3 1 1 rfl (by kernel_rfl);obtain ⟨s0,e0,z0⟩:=f0.str;obtain ⟨k1,e1⟩:=f1.int;simp only [List.cons.injEq,and_true] at e0 e1;subst e0;subst e1;refine ⟨⟨s0,k1⟩,fun v hv=>?_,rfl,trivial⟩;simp only [mc_,nn_,or_false] at hv;rcases hv with rfl|rfl<;>first|rfl|(show ByteArray.size _<=_;omega)
theorem A_X (hB:W.heap.size<=DB.B)(hN:N<=4194304)(h:Rd enc W N 38 cs):∃ a l c xs,cs=[.slice a l c]/\RJPrs W a l c xs/\xs.length+(xs.map (fun _=>0)).sum<=N:=
 z_K hB Tryz.underlying38 (n:=2) (by kernel_rfl) h hN 90 (R:=RJPr) (fun _=>0) fun M cs hM he hl=>by
  obtain ⟨x,h1,h2,h3⟩:=D_N hB (by omega) he hl;exact ⟨x,h1,h2,Nat.zero_le _⟩
theorem B_n (hB:W.heap.size<=DB.B)(hN:N<=4194304)(h:Rd enc W N 92 cs)(hl:cs.length=2):∃ x,(∀ v∈cs,a_v v)/\RJPa W x cs/\x.ts.length<=N-1:=by
 obtain ⟨v0,v1,rfl⟩:∃ v0 v1,cs=[v0,v1]:=by
  match cs,hl with
  | [v0,v1],_=>exact ⟨_,_,rfl⟩
 obtain ⟨B,hs,hf⟩:=h.flds Tryz.underlying92 2 (by kernel_rfl);simp only [List.range,List.range.loop,List.map_cons,List.map_nil,List.sum_cons,List.sum_nil] at hs;have hp:=h.pos;have f0:Rd enc W (B 0) 24 [v0]:=hf 0 24 0 1 rfl (by kernel_rfl);have f1:Rd enc W (B 1) 3 [v1]:=hf 1 3 1 1 rfl (by kernel_rfl);obtain ⟨a0,l0,c0,x0,e0,r0,m0⟩:=k_z hB (by omega) f0;obtain ⟨k1,e1⟩:=f1.int;simp only [List.cons.injEq,and_true] at e0 e1;subst e0;subst e1;refine ⟨⟨x0,k1⟩,fun v hv=>?_,⟨a0,l0,c0,rfl,r0⟩,by show x0.length<=N-1;omega⟩;simp only [mc_,nn_,or_false] at hv;rcases hv with rfl|rfl<;>first|rfl|(show ByteArray.size _<=_;omega)
theorem A_W (hB:W.heap.size<=DB.B)(hN:N<=4194304)(h:Rd enc W N 39 cs):∃ a l c xs,cs=[.slice a l c]/\RJPas W a l c xs/\xs.length+(xs.map (fun x=>x.ts.length)).sum<=N:=
 z_K hB Tryz.underlying39 (n:=2) (by kernel_rfl) h hN 92 (R:=RJPa W) (fun x=>x.ts.length) fun M cs hM he hl=>by
  obtain ⟨x,h1,h2,h3⟩:=B_n hB (by omega) he hl;exact ⟨x,h1,h2,by simpa using h3⟩
theorem D_L (hB:W.heap.size<=DB.B)(hN:N<=4194304)(h:Rd enc W N 155 cs)(hl:cs.length=2):∃ x,(∀ v∈cs,a_v v)/\RJNe W x cs/\x.names.length<=N-1:=by
 obtain ⟨v0,v1,rfl⟩:∃ v0 v1,cs=[v0,v1]:=by
  match cs,hl with
  | [v0,v1],_=>exact ⟨_,_,rfl⟩
 obtain ⟨B,hs,hf⟩:=h.flds Tryz.underlying155 2 (by kernel_rfl);simp only [List.range,List.range.loop,List.map_cons,List.map_nil,List.sum_cons,List.sum_nil] at hs;have hp:=h.pos;have f0:Rd enc W (B 0) 9 [v0]:=hf 0 9 0 1 rfl (by kernel_rfl);have f1:Rd enc W (B 1) 24 [v1]:=hf 1 24 1 1 rfl (by kernel_rfl);obtain ⟨s0,e0,z0⟩:=f0.str;obtain ⟨a1,l1,c1,x1,e1,r1,m1⟩:=k_z hB (by omega) f1;simp only [List.cons.injEq,and_true] at e0 e1;subst e0;subst e1;refine ⟨⟨s0,x1⟩,fun v hv=>?_,⟨a1,l1,c1,rfl,r1⟩,by show x1.length<=N-1;omega⟩;simp only [mc_,nn_,or_false] at hv;rcases hv with rfl|rfl<;>first|rfl|(show ByteArray.size _<=_;omega)
theorem C_V (hB:W.heap.size<=DB.B)(hN:N<=4194304)(h:Rd enc W N 37 cs):∃ a l c xs,cs=[.slice a l c]/\RJNes W a l c xs/\xs.length+(xs.map (fun x=>x.names.length)).sum<=N:=
 z_K hB Tryz.underlying37 (n:=2) (by kernel_rfl) h hN 155 (R:=RJNe W) (fun x=>x.names.length) fun M cs hM he hl=>by
  obtain ⟨x,h1,h2,h3⟩:=D_L hB (by omega) he hl;exact ⟨x,h1,h2,by simpa using h3⟩
theorem C_b (hB:W.heap.size<=DB.B)(hN:N<=4194304)(h:Rd enc W N 99 cs)(hl:cs.length=3):∃ x,(∀ v∈cs,a_v v)/\RJDe W x cs/\x.names.length<=N-1:=by
 obtain ⟨v0,v1,v2,rfl⟩:∃ v0 v1 v2,cs=[v0,v1,v2]:=by
  match cs,hl with
  | [v0,v1,v2],_=>exact ⟨_,_,_,rfl⟩
 obtain ⟨B,hs,hf⟩:=h.flds Tryz.underlying99 3 (by kernel_rfl);simp only [List.range,List.range.loop,List.map_cons,List.map_nil,List.sum_cons,List.sum_nil] at hs;have hp:=h.pos;have f0:Rd enc W (B 0) 9 [v0]:=hf 0 9 0 1 rfl (by kernel_rfl);have f1:Rd enc W (B 1) 24 [v1]:=hf 1 24 1 1 rfl (by kernel_rfl);have f2:Rd enc W (B 2) 3 [v2]:=hf 2 3 2 1 rfl (by kernel_rfl);obtain ⟨s0,e0,z0⟩:=f0.str;obtain ⟨a1,l1,c1,x1,e1,r1,m1⟩:=k_z hB (by omega) f1;obtain ⟨k2,e2⟩:=f2.int;simp only [List.cons.injEq,and_true] at e0 e1 e2;subst e0;subst e1;subst e2;refine ⟨⟨s0,x1,k2⟩,fun v hv=>?_,⟨a1,l1,c1,rfl,r1⟩,by show x1.length<=N-1;omega⟩;simp only [mc_,nn_,or_false] at hv;rcases hv with rfl|rfl|rfl<;>first|rfl|(show ByteArray.size _<=_;omega)
theorem B_m (hB:W.heap.size<=DB.B)(hN:N<=4194304)(h:Rd enc W N 42 cs):∃ a l c xs,cs=[.slice a l c]/\RJDes W a l c xs/\xs.length+(xs.map (fun x=>x.names.length)).sum<=N:=
 z_K hB Tryz.underlying42 (n:=3) (by kernel_rfl) h hN 99 (R:=RJDe W) (fun x=>x.names.length) fun M cs hM he hl=>by
  obtain ⟨x,h1,h2,h3⟩:=C_b hB (by omega) he hl;exact ⟨x,h1,h2,by simpa using h3⟩
theorem A_z {α:Type}(f:α->Nat){x:α}:∀ {xs:List α},x∈xs->f x<=(xs.map f).sum
 | y::l,h=>by
  simp only [List.map_cons,List.sum_cons];rcases mc_.1 h with rfl|h
  ·omega
  ·have:=A_z f h;omega
theorem w_9 {cs:List Value}{n:Nat}(h:cs.length=n+1):∃ v r,cs=v::r/\r.length=n:=by
 cases cs with
 | nil=>simp at h
 | cons v r=>exact ⟨v,r,rfl,by simpa using h⟩
theorem w_0 {v:Value}{l:List Value}(h:a_v v)(hl:∀ u∈l,a_v u):∀ u∈v::l,a_v u:=fun u hu=>by
 rcases mc_.1 hu with rfl|hu
 ·exact h
 ·exact hl u hu
set_option maxRecDepth 4000 in
set_option maxHeartbeats 4000000 in
theorem D_M (hB:W.heap.size<=DB.B)(hN:N<=4194304)(h:Rd enc W N 44 cs)(hl:cs.length=53):∃ x,(∀ v∈cs,a_v v)/\RJN W x cs/\(N<=1048577->smN x):=by
 obtain ⟨v0,t0,rfl,lv0⟩:=w_9 hl;obtain ⟨v1,t1,rfl,lv1⟩:=w_9 lv0;obtain ⟨v2,t2,rfl,lv2⟩:=w_9 lv1;obtain ⟨v3,t3,rfl,lv3⟩:=w_9 lv2;obtain ⟨v4,t4,rfl,lv4⟩:=w_9 lv3;obtain ⟨v5,t5,rfl,lv5⟩:=w_9 lv4;obtain ⟨v6,t6,rfl,lv6⟩:=w_9 lv5;obtain ⟨v7,t7,rfl,lv7⟩:=w_9 lv6;obtain ⟨v8,t8,rfl,lv8⟩:=w_9 lv7;obtain ⟨v9,t9,rfl,lv9⟩:=w_9 lv8;obtain ⟨v10,t10,rfl,lv10⟩:=w_9 lv9;obtain ⟨v11,t11,rfl,lv11⟩:=w_9 lv10;obtain ⟨v12,t12,rfl,lv12⟩:=w_9 lv11;obtain ⟨v13,t13,rfl,lv13⟩:=w_9 lv12;obtain ⟨v14,t14,rfl,lv14⟩:=w_9 lv13;obtain ⟨v15,t15,rfl,lv15⟩:=w_9 lv14;obtain ⟨v16,t16,rfl,lv16⟩:=w_9 lv15;obtain ⟨v17,t17,rfl,lv17⟩:=w_9 lv16;obtain ⟨v18,t18,rfl,lv18⟩:=w_9 lv17;obtain ⟨v19,t19,rfl,lv19⟩:=w_9 lv18;obtain ⟨v20,t20,rfl,lv20⟩:=w_9 lv19;obtain ⟨v21,t21,rfl,lv21⟩:=w_9 lv20;obtain ⟨v22,t22,rfl,lv22⟩:=w_9 lv21;obtain ⟨v23,t23,rfl,lv23⟩:=w_9 lv22;obtain ⟨v24,t24,rfl,lv24⟩:=w_9 lv23;obtain ⟨v25,t25,rfl,lv25⟩:=w_9 lv24;obtain ⟨v26,t26,rfl,lv26⟩:=w_9 lv25;obtain ⟨v27,t27,rfl,lv27⟩:=w_9 lv26;obtain ⟨v28,t28,rfl,lv28⟩:=w_9 lv27;obtain ⟨v29,t29,rfl,lv29⟩:=w_9 lv28;obtain ⟨v30,t30,rfl,lv30⟩:=w_9 lv29;obtain ⟨v31,t31,rfl,lv31⟩:=w_9 lv30;obtain ⟨v32,t32,rfl,lv32⟩:=w_9 lv31;obtain ⟨v33,t33,rfl,lv33⟩:=w_9 lv32;obtain ⟨v34,t34,rfl,lv34⟩:=w_9 lv33;obtain ⟨v35,t35,rfl,lv35⟩:=w_9 lv34;obtain ⟨v36,t36,rfl,lv36⟩:=w_9 lv35;obtain ⟨v37,t37,rfl,lv37⟩:=w_9 lv36;obtain ⟨v38,t38,rfl,lv38⟩:=w_9 lv37;obtain ⟨v39,t39,rfl,lv39⟩:=w_9 lv38;obtain ⟨v40,t40,rfl,lv40⟩:=w_9 lv39;obtain ⟨v41,t41,rfl,lv41⟩:=w_9 lv40;obtain ⟨v42,t42,rfl,lv42⟩:=w_9 lv41;obtain ⟨v43,t43,rfl,lv43⟩:=w_9 lv42;obtain ⟨v44,t44,rfl,lv44⟩:=w_9 lv43;obtain ⟨v45,t45,rfl,lv45⟩:=w_9 lv44;obtain ⟨v46,t46,rfl,lv46⟩:=w_9 lv45;obtain ⟨v47,t47,rfl,lv47⟩:=w_9 lv46;obtain ⟨v48,t48,rfl,lv48⟩:=w_9 lv47;obtain ⟨v49,t49,rfl,lv49⟩:=w_9 lv48;obtain ⟨v50,t50,rfl,lv50⟩:=w_9 lv49;obtain ⟨v51,t51,rfl,lv51⟩:=w_9 lv50;obtain ⟨v52,t52,rfl,lv52⟩:=w_9 lv51;obtain rfl:=List.eq_nil_of_length_eq_zero lv52;obtain ⟨B,hs,hf⟩:=h.flds Tryz.underlying44 41 (by kernel_rfl);have hle:∀ i,i<41->B i<=N-1:=fun i hi=>lt_ (A_z B (List.mem_range.2 hi)) hs;clear hs;have f0:Rd enc W (B 0) 3 [v0]:=hf 0 3 0 1 rfl (by kernel_rfl);have f1:Rd enc W (B 1) 3 [v1]:=hf 1 3 1 1 rfl (by kernel_rfl);have f2:Rd enc W (B 2) 32 [v2]:=hf 2 32 2 1 rfl (by kernel_rfl);have f3:Rd enc W (B 3) 32 [v3]:=hf 3 32 3 1 rfl (by kernel_rfl);have f4:Rd enc W (B 4) 32 [v4]:=hf 4 32 4 1 rfl (by kernel_rfl);have f5:Rd enc W (B 5) 3 [v5]:=hf 5 3 5 1 rfl (by kernel_rfl);have f6:Rd enc W (B 6) 3 [v6]:=hf 6 3 6 1 rfl (by kernel_rfl);have f7:Rd enc W (B 7) 3 [v7]:=hf 7 3 7 1 rfl (by kernel_rfl);have f8:Rd enc W (B 8) 3 [v8]:=hf 8 3 8 1 rfl (by kernel_rfl);have f9:Rd enc W (B 9) 24 [v9]:=hf 9 24 9 1 rfl (by kernel_rfl);have f10:Rd enc W (B 10) 4 [v10]:=hf 10 4 10 1 rfl (by kernel_rfl);have f11:Rd enc W (B 11) 25 [v11]:=hf 11 25 11 1 rfl (by kernel_rfl);have f12:Rd enc W (B 12) 25 [v12]:=hf 12 25 12 1 rfl (by kernel_rfl);have f13:Rd enc W (B 13) 34 [v13,v14]:=hf 13 34 13 2 rfl (by kernel_rfl);have f14:Rd enc W (B 14) 34 [v15,v16]:=hf 14 34 15 2 rfl (by kernel_rfl);have f15:Rd enc W (B 15) 36 [v17,v18]:=hf 15 36 17 2 rfl (by kernel_rfl);have f16:Rd enc W (B 16) 36 [v19,v20]:=hf 16 36 19 2 rfl (by kernel_rfl);have f17:Rd enc W (B 17) 34 [v21,v22]:=hf 17 34 21 2 rfl (by kernel_rfl);have f18:Rd enc W (B 18) 34 [v23,v24]:=hf 18 34 23 2 rfl (by kernel_rfl);have f19:Rd enc W (B 19) 34 [v25,v26]:=hf 19 34 25 2 rfl (by kernel_rfl);have f20:Rd enc W (B 20) 34 [v27,v28]:=hf 20 34 27 2 rfl (by kernel_rfl);have f21:Rd enc W (B 21) 4 [v29]:=hf 21 4 29 1 rfl (by kernel_rfl);have f22:Rd enc W (B 22) 32 [v30]:=hf 22 32 30 1 rfl (by kernel_rfl);have f23:Rd enc W (B 23) 3 [v31]:=hf 23 3 31 1 rfl (by kernel_rfl);have f24:Rd enc W (B 24) 3 [v32]:=hf 24 3 32 1 rfl (by kernel_rfl);have f25:Rd enc W (B 25) 3 [v33]:=hf 25 3 33 1 rfl (by kernel_rfl);have f26:Rd enc W (B 26) 34 [v34,v35]:=hf 26 34 34 2 rfl (by kernel_rfl);have f27:Rd enc W (B 27) 34 [v36,v37]:=hf 27 34 36 2 rfl (by kernel_rfl);have f28:Rd enc W (B 28) 24 [v38]:=hf 28 24 38 1 rfl (by kernel_rfl);have f29:Rd enc W (B 29) 37 [v39]:=hf 29 37 39 1 rfl (by kernel_rfl);have f30:Rd enc W (B 30) 38 [v40]:=hf 30 38 40 1 rfl (by kernel_rfl);have f31:Rd enc W (B 31) 38 [v41]:=hf 31 38 41 1 rfl (by kernel_rfl);have f32:Rd enc W (B 32) 39 [v42]:=hf 32 39 42 1 rfl (by kernel_rfl);have f33:Rd enc W (B 33) 41 [v43,v44]:=hf 33 41 43 2 rfl (by kernel_rfl);have f34:Rd enc W (B 34) 3 [v45]:=hf 34 3 45 1 rfl (by kernel_rfl);have f35:Rd enc W (B 35) 3 [v46]:=hf 35 3 46 1 rfl (by kernel_rfl);have f36:Rd enc W (B 36) 3 [v47]:=hf 36 3 47 1 rfl (by kernel_rfl);have f37:Rd enc W (B 37) 4 [v48]:=hf 37 4 48 1 rfl (by kernel_rfl);have f38:Rd enc W (B 38) 32 [v49]:=hf 38 32 49 1 rfl (by kernel_rfl);have f39:Rd enc W (B 39) 41 [v50,v51]:=hf 39 41 50 2 rfl (by kernel_rfl);have f40:Rd enc W (B 40) 42 [v52]:=hf 40 42 52 1 rfl (by kernel_rfl);have hN1:N-1<=4194304:=lt_ (Nat.sub_le _ _) hN;have hlN:∀ i,i<41->B i<=4194304:=fun i hi=>lt_ (hle i hi) hN1;obtain ⟨k0,e0⟩:=f0.int;obtain ⟨k1,e1⟩:=f1.int;obtain ⟨a2,l2,c2,x2,e2,r2,m2⟩:=z_H hB (hlN 2 (by decide)) f2;obtain ⟨a3,l3,c3,x3,e3,r3,m3⟩:=z_H hB (hlN 3 (by decide)) f3;obtain ⟨a4,l4,c4,x4,e4,r4,m4⟩:=z_H hB (hlN 4 (by decide)) f4;obtain ⟨k5,e5⟩:=f5.int;obtain ⟨k6,e6⟩:=f6.int;obtain ⟨k7,e7⟩:=f7.int;obtain ⟨k8,e8⟩:=f8.int;obtain ⟨a9,l9,c9,x9,e9,r9,m9⟩:=k_z hB (hlN 9 (by decide)) f9;obtain ⟨b10,e10⟩:=f10.bool;obtain ⟨a11,l11,c11,x11,e11,r11,m11⟩:=D_Z hB (hlN 11 (by decide)) f11;obtain ⟨a12,l12,c12,x12,e12,r12,m12⟩:=D_Z hB (hlN 12 (by decide)) f12;obtain ⟨x13,e13⟩:=y_3 f13;obtain ⟨x14,e14⟩:=y_3 f14;obtain ⟨x15,a15,l15,c15,e15,r15,m15⟩:=D_0 hB (hlN 15 (by decide)) f15;obtain ⟨x16,a16,l16,c16,e16,r16,m16⟩:=D_0 hB (hlN 16 (by decide)) f16;obtain ⟨x17,e17⟩:=y_3 f17;obtain ⟨x18,e18⟩:=y_3 f18;obtain ⟨x19,e19⟩:=y_3 f19;obtain ⟨x20,e20⟩:=y_3 f20;obtain ⟨b21,e21⟩:=f21.bool;obtain ⟨a22,l22,c22,x22,e22,r22,m22⟩:=z_H hB (hlN 22 (by decide)) f22;obtain ⟨k23,e23⟩:=f23.int;obtain ⟨k24,e24⟩:=f24.int;obtain ⟨k25,e25⟩:=f25.int;obtain ⟨x26,e26⟩:=y_3 f26;obtain ⟨x27,e27⟩:=y_3 f27;obtain ⟨a28,l28,c28,x28,e28,r28,m28⟩:=k_z hB (hlN 28 (by decide)) f28;obtain ⟨a29,l29,c29,x29,e29,r29,m29⟩:=C_V hB (hlN 29 (by decide)) f29;obtain ⟨a30,l30,c30,x30,e30,r30,m30⟩:=A_X hB (hlN 30 (by decide)) f30;obtain ⟨a31,l31,c31,x31,e31,r31,m31⟩:=A_X hB (hlN 31 (by decide)) f31;obtain ⟨a32,l32,c32,x32,e32,r32,m32⟩:=A_W hB (hlN 32 (by decide)) f32;obtain ⟨x33,e33⟩:=E_z f33;obtain ⟨k34,e34⟩:=f34.int;obtain ⟨k35,e35⟩:=f35.int;obtain ⟨k36,e36⟩:=f36.int;obtain ⟨b37,e37⟩:=f37.bool;obtain ⟨a38,l38,c38,x38,e38,r38,m38⟩:=z_H hB (hlN 38 (by decide)) f38;obtain ⟨x39,e39⟩:=E_z f39;obtain ⟨a40,l40,c40,x40,e40,r40,m40⟩:=B_m hB (hlN 40 (by decide)) f40;simp only [List.cons.injEq,and_true] at e0;subst e0;simp only [List.cons.injEq,and_true] at e1;subst e1;simp only [List.cons.injEq,and_true] at e2;subst e2;simp only [List.cons.injEq,and_true] at e3;subst e3;simp only [List.cons.injEq,and_true] at e4;subst e4;simp only [List.cons.injEq,and_true] at e5;subst e5;simp only [List.cons.injEq,and_true] at e6;subst e6;simp only [List.cons.injEq,and_true] at e7;subst e7;simp only [List.cons.injEq,and_true] at e8;subst e8;simp only [List.cons.injEq,and_true] at e9;subst e9;simp only [List.cons.injEq,and_true] at e10;subst e10;simp only [List.cons.injEq,and_true] at e11;subst e11;simp only [List.cons.injEq,and_true] at e12;subst e12;simp only [List.cons.injEq,and_true] at e13;obtain ⟨rfl,rfl⟩:=e13;simp only [List.cons.injEq,and_true] at e14;obtain ⟨rfl,rfl⟩:=e14;simp only [List.cons.injEq,and_true] at e15;obtain ⟨rfl,rfl⟩:=e15;simp only [List.cons.injEq,and_true] at e16;obtain ⟨rfl,rfl⟩:=e16;simp only [List.cons.injEq,and_true] at e17;obtain ⟨rfl,rfl⟩:=e17;simp only [List.cons.injEq,and_true] at e18;obtain ⟨rfl,rfl⟩:=e18;simp only [List.cons.injEq,and_true] at e19;obtain ⟨rfl,rfl⟩:=e19;simp only [List.cons.injEq,and_true] at e20;obtain ⟨rfl,rfl⟩:=e20;simp only [List.cons.injEq,and_true] at e21;subst e21;simp only [List.cons.injEq,and_true] at e22;subst e22;simp only [List.cons.injEq,and_true] at e23;subst e23;simp only [List.cons.injEq,and_true] at e24;subst e24;simp only [List.cons.injEq,and_true] at e25;subst e25;simp only [List.cons.injEq,and_true] at e26;obtain ⟨rfl,rfl⟩:=e26;simp only [List.cons.injEq,and_true] at e27;obtain ⟨rfl,rfl⟩:=e27;simp only [List.cons.injEq,and_true] at e28;subst e28;simp only [List.cons.injEq,and_true] at e29;subst e29;simp only [List.cons.injEq,and_true] at e30;subst e30;simp only [List.cons.injEq,and_true] at e31;subst e31;simp only [List.cons.injEq,and_true] at e32;subst e32;simp only [List.cons.injEq,and_true] at e33;obtain ⟨rfl,rfl⟩:=e33;simp only [List.cons.injEq,and_true] at e34;subst e34;simp only [List.cons.injEq,and_true] at e35;subst e35;simp only [List.cons.injEq,and_true] at e36;subst e36;simp only [List.cons.injEq,and_true] at e37;subst e37;simp only [List.cons.injEq,and_true] at e38;subst e38;simp only [List.cons.injEq,and_true] at e39;obtain ⟨rfl,rfl⟩:=e39;simp only [List.cons.injEq,and_true] at e40;subst e40;refine ⟨⟨k0,k1,x2,x3,x4,k5,k6,k7,k8,x9,b10,x11,x12,x13,x14,x15,x16,x17,x18,x19,x20,b21,x22,k23,k24,k25,x26,x27,x28,x29,x30,x31,x32,x33,k34,k35,k36,b37,x38,x39,x40⟩,w_0 rfl (w_0 rfl (w_0 rfl (w_0 rfl (w_0 rfl (w_0 rfl (w_0 rfl (w_0 rfl (w_0 rfl (w_0 rfl (w_0 rfl (w_0 rfl (w_0 rfl (w_0 rfl (w_0 rfl (w_0 rfl (w_0 rfl (w_0 rfl (w_0 rfl (w_0 rfl (w_0 rfl (w_0 rfl (w_0 rfl (w_0 rfl (w_0 rfl (w_0 rfl (w_0 rfl (w_0 rfl (w_0 rfl (w_0 rfl (w_0 rfl (w_0 rfl (w_0 rfl (w_0 rfl (w_0 rfl (w_0 rfl (w_0 rfl (w_0 rfl (w_0 rfl (w_0 rfl (w_0 rfl (w_0 rfl (w_0 rfl (w_0 rfl (w_0 rfl (w_0 rfl (w_0 rfl (w_0 rfl (w_0 rfl (w_0 rfl (w_0 rfl (w_0 rfl (w_0 rfl (fun _ h=>nomatch h))))))))))))))))))))))))))))))))))))))))))))))))))))),⟨⟨a2,l2,c2⟩,⟨a3,l3,c3⟩,⟨a4,l4,c4⟩,⟨a9,l9,c9⟩,⟨a11,l11,c11⟩,⟨a12,l12,c12⟩,⟨a15,l15,c15⟩,⟨a16,l16,c16⟩,⟨a22,l22,c22⟩,⟨a28,l28,c28⟩,⟨a29,l29,c29⟩,⟨a30,l30,c30⟩,⟨a31,l31,c31⟩,⟨a32,l32,c32⟩,⟨a38,l38,c38⟩,⟨a40,l40,c40⟩,rfl,r2,r3,r4,r9,r11,r12,r15,r16,r22,r28,r29,r30,r31,r32,r38,r40⟩,fun hb=>?_⟩;have hbb:∀ i,i<41->B i<=1100000:=fun i hi=>lt_ (hle i hi) (lt_ (Nat.sub_le _ _) (lt_ hb (by decide)));exact { n2:=lt_ m2 (hbb 2 (by decide)),n3:=lt_ m3 (hbb 3 (by decide)),n4:=lt_ m4 (hbb 4 (by decide)),n9:=lt_ m9 (hbb 9 (by decide)),n15:=lt_ m15 (hbb 15 (by decide)),n16:=lt_ m16 (hbb 16 (by decide)),n22:=lt_ m22 (hbb 22 (by decide)),n28:=lt_ m28 (hbb 28 (by decide)),n29:=lt_ (lt_ (Nat.le_add_right _ _) m29) (hbb 29 (by decide)),n30:=lt_ (lt_ (Nat.le_add_right _ _) m30) (hbb 30 (by decide)),n31:=lt_ (lt_ (Nat.le_add_right _ _) m31) (hbb 31 (by decide)),n32:=lt_ (lt_ (Nat.le_add_right _ _) m32) (hbb 32 (by decide)),n38:=lt_ m38 (hbb 38 (by decide)),n40:=lt_ (lt_ (Nat.le_add_right _ _) m40) (hbb 40 (by decide)),enm:=lt_ m11 (hbb 11 (by decide)),cst:=lt_ m12 (hbb 12 (by decide)),ps:=fun q hq=>lt_ (lt_ (A_z (fun x:JPa=>x.ts.length) hq) (lt_ (Nat.le_add_left _ _) m32)) (hbb 32 (by decide)),ns:=fun q hq=>lt_ (lt_ (A_z (fun x:JNe=>x.names.length) hq) (lt_ (Nat.le_add_left _ _) m29)) (hbb 29 (by decide))}
theorem E_A {t:TypeId}(ht:Tryz.prog.underlying t=some (.slice 44))(hB:W.heap.size<=DB.B)(hN:N<=1048577)(h:Rd enc W N t cs):∃ a l c xs,cs=[.slice a l c]/\RJNs W a l c xs/\(∀ x∈xs,smN x)/\xs.length<=N:=by
 obtain ⟨a,l,c,xs,h1,h2,h3⟩:=z_K hB ht (n:=53) (by kernel_rfl) h (by omega) 44 (R:=fun x cs=>RJN W x cs/\smN x) (fun _=>0) fun M cs hM he hl=>by
  obtain ⟨x,h1,h2,h3⟩:=D_M hB (by omega) he hl;exact ⟨x,h1,⟨h2,h3 (by omega)⟩,Nat.zero_le _⟩
 refine ⟨a,l,c,xs,h1,⟨h2.1,h2.2.1,h2.2.2.1,fun i x hi=>?_⟩,fun x hx=>?_,by omega⟩
 ·obtain ⟨p,hp,cs,hc,hr⟩:=h2.2.2.2 i x hi;exact ⟨p,hp,cs,hc,hr.1⟩
 ·obtain ⟨i,hi⟩:=List.getElem?_of_mem hx;obtain ⟨p,hp,cs,hc,hr⟩:=h2.2.2.2 i x hi;exact hr.2
theorem C_c (hB:W.heap.size<=DB.B)(hN:N<=1048577)(h:Rd enc W N 23 cs):∃ a l c xs,cs=[.slice a l c]/\RJNs W a l c xs/\(∀ x∈xs,smN x)/\xs.length<=N:=E_A Tryz.underlying23 hB hN h
end
end Go.VC
namespace Go.Proofs
open Go.Shelf
def Tryz.lays171_ren:Go.Shelf.Ren:=⟨fun |171=>63|243=>99|246=>117|283=>143|284=>144|285=>145|286=>146|129=>166|317=>165|318=>167|319=>168|320=>169|337=>176|338=>177|n=>n,fun |3=>3|9=>9|2=>2|4=>4|171=>248|0=>0|53=>249|37=>252|5=>5|173=>253|212=>338|51=>263|20=>20|213=>339|46=>261|232=>350|233=>351|n=>n,fun |17=>0|18=>2|19=>3|n=>n⟩
theorem Tryz.lays171:Go.Proofs.LaysM.n171 Tryz.prog Tryz.lays171_ren:={
 mixed:=by kernel_rfl
 f129:=Tryz.func166.trans (congrArg some (by kernel_rfl))
 f171:=Tryz.func63.trans (congrArg some (by kernel_rfl))
 f243:=Tryz.func99.trans (congrArg some (by kernel_rfl))
 f246:=Tryz.func117.trans (congrArg some (by kernel_rfl))
 f283:=Tryz.func143.trans (congrArg some (by kernel_rfl))
 f284:=Tryz.func144.trans (congrArg some (by kernel_rfl))
 f285:=Tryz.func145.trans (congrArg some (by kernel_rfl))
 f286:=Tryz.func146.trans (congrArg some (by kernel_rfl))
 f317:=Tryz.func165.trans (congrArg some (by kernel_rfl))
 f318:=Tryz.func167.trans (congrArg some (by kernel_rfl))
 f319:=Tryz.func168.trans (congrArg some (by kernel_rfl))
 f320:=Tryz.func169.trans (congrArg some (by kernel_rfl))
 f337:=Tryz.func176.trans (congrArg some (by kernel_rfl))
 f338:=Tryz.func177.trans (congrArg some (by kernel_rfl))
 t0:=Tryz.underlying0
 a0:=Tryz.isAgg0
 z0:=Tryz.sizeOf0
 v0:=Tryz.zeroValue0
 t2:=Tryz.underlying2
 a2:=Tryz.isAgg2
 z2:=Tryz.sizeOf2
 v2:=Tryz.zeroValue2
 t3:=Tryz.underlying3
 a3:=Tryz.isAgg3
 z3:=Tryz.sizeOf3
 v3:=Tryz.zeroValue3
 t4:=Tryz.underlying4
 a4:=Tryz.isAgg4
 z4:=Tryz.sizeOf4
 v4:=Tryz.zeroValue4
 t5:=Tryz.underlying5
 a5:=Tryz.isAgg5
 z5:=Tryz.sizeOf5
 v5:=Tryz.zeroValue5
 t9:=Tryz.underlying9
 a9:=Tryz.isAgg9
 z9:=Tryz.sizeOf9
 v9:=Tryz.zeroValue9
 t20:=Tryz.underlying20
 a20:=Tryz.isAgg20
 z20:=Tryz.sizeOf20
 v20:=Tryz.zeroValue20
 t37:=Tryz.underlying252
 a37:=Tryz.isAgg252
 z37:=Tryz.sizeOf252
 v37:=Tryz.zeroValue252
 t46:=Tryz.underlying261
 a46:=Tryz.isAgg261
 z46:=Tryz.sizeOf261
 v46:=Tryz.zeroValue261
 t51:=Tryz.underlying263
 a51:=Tryz.isAgg263
 z51:=Tryz.sizeOf263
 v51:=Tryz.zeroValue263
 t53:=Tryz.underlying249
 a53:=Tryz.isAgg249
 z53:=Tryz.sizeOf249
 v53:=Tryz.zeroValue249
 t171:=Tryz.underlying248
 a171:=Tryz.isAgg248
 z171:=Tryz.sizeOf248
 v171:=Tryz.zeroValue248
 t173:=Tryz.underlying253
 a173:=Tryz.isAgg253
 z173:=Tryz.sizeOf253
 v173:=Tryz.zeroValue253
 t212:=Tryz.underlying338
 a212:=Tryz.isAgg338
 z212:=Tryz.sizeOf338
 v212:=Tryz.zeroValue338
 t213:=Tryz.underlying339
 a213:=Tryz.isAgg339
 z213:=Tryz.sizeOf339
 t232:=Tryz.underlying350
 a232:=Tryz.isAgg350
 z232:=Tryz.sizeOf350
 v232:=Tryz.zeroValue350
 t233:=Tryz.underlying351
 a233:=Tryz.isAgg351
 z233:=Tryz.sizeOf351
 v233:=Tryz.zeroValue351
 g17:=by kernel_rfl
 g18:=by kernel_rfl
 g19:=by kernel_rfl
 i0:=by kernel_rfl
 i2:=by kernel_rfl
 i3:=by kernel_rfl
 i4:=by kernel_rfl
 i5:=by kernel_rfl
 i9:=by kernel_rfl
 i20:=by kernel_rfl
 i37:=by kernel_rfl
 i46:=by kernel_rfl
 i51:=by kernel_rfl
 i53:=by kernel_rfl
 i171:=by kernel_rfl
 i173:=by kernel_rfl
 i212:=by kernel_rfl
 i232:=by kernel_rfl
 i233:=by kernel_rfl
 m17:=by kernel_rfl
 m18:=by kernel_rfl
 m19:=by kernel_rfl}
end Go.Proofs
namespace Go.VC
open Go Go.Proofs
variable [DB]
theorem D_l (w:World)(k:Nat)(os:Array Obj):EF w (Sort.grow (w.drewN k) os):=
 ⟨fun b o _ h=>by
  have hb:=a_3 h;unfold objAt at h ⊢;show (w.heap++os)[b]? =some o;rw [Array.getElem?_append_left hb];exact h,by show w.heap.size<=(w.heap++os).size;rw [Array.size_append];omega,rfl,rfl⟩
theorem E_m {w w':World}{n:String}{k:IntKind}{zs:List Int}(h:Lib.TabIs Tryz.prog w n k zs)(hx:EF w w'):Lib.TabIs Tryz.prog w' n k zs:=by
 unfold Lib.TabIs World.var? at h ⊢;obtain ⟨g,hg,h⟩:=Option.bind_eq_some_iff.1 h;rw [hg,Option.bind_some];cases ho:w.heap[g]? with
 | none=>rw [ho] at h;cases h
 | some o=>
  have h1:w'.heap[g]? =some o:=hx.old g o id ho;rw [h1];rw [ho] at h;exact h
theorem E_t {w:World}(h:Lib.TabIs Tryz.prog w "internal/strconv.uint64pow10" .u64 Lib.pow10Tab):y_C w:=fun i w' h0 h1 hx=>
 (Any.strconv_Itoa Tryz.lays171 i (by omega) (by omega) w' (E_m h hx)).mono (by
  rintro e w2 ⟨rfl,k,os,rfl⟩;exact ⟨_,rfl,D_l _ _ _⟩)
end Go.VC
namespace Go.Proofs.YtdakokhbeoohlaaGreatDoor
open Go Go.VC Go.ChangeShapes Go.WideShapes Go.ChangeAt Go.RowKit
set_option maxRecDepth 4000
theorem own:ownKnob Tryz.prog.godebug=none:=by kernel_rfl
theorem kids:Kids Tryz.prog (· <Tryz.prog.types.size):=kids_rows (by kernel_rfl) (by kernel_rfl)
theorem full:∀ t e,t<Tryz.prog.types.size->Tryz.prog.underlying t=some (.slice e)->0<Tryz.prog.cellsOf e:=slices_full_of Tryz.prog (by kernel_rfl)
theorem o_f {W W':World}(h:EF W W')(may:MemPlace->Prop):W.keptBut W' may:=by
 refine ⟨h.os,h.out,fun i hi=>?_⟩;have h1:W.heap[i]? =some W.heap[i]:=Array.getElem?_eq_getElem hi;have h2:W'.heap[i]? =some W.heap[i]:=h.old i _ id h1;rw [h1,h2];cases W.heap[i]<;>simp
theorem l_l {H:Type}{enc:TypeId × Value->H}{W W':World}(h:EF W W'){t:TypeId}{v:Value}{d:DataW H}{ps:List MemPlace}(ht:t<Tryz.prog.types.size)(hd:DataW.Trod enc Tryz.prog W 0 (fun _=>true) true t v d ps)(hlt:∀ p∈ps,p.block<W.heap.size):
  DataW.Trod enc Tryz.prog W' 0 (fun b=>decide (b<W.heap.size)) true t v d ps:=by
 obtain ⟨n,hn⟩:=hd;refine ⟨n,DataW.trod_stays kids (fun {t e} ht he=>full t e ht he) (fun h=>Bool.noConfusion h) ht hn (fun p hp=>?_) fun p hp=>by simpa using hlt p hp⟩;have hl:=hlt p hp;have h1:W.heap[p.block]? =some W.heap[p.block]:=Array.getElem?_eq_getElem hl;have h2:W'.heap[p.block]? =some W.heap[p.block]:=h.old _ _ id h1;cases p with
 | cell b off=>
  show W'.cell? ⟨b,off,none⟩=W.cell? ⟨b,off,none⟩;simp only [World.cell?];rw [show W'.heap[b]? =_ from h2,show W.heap[b]? =_ from h1]
 | map b=>exact h2.trans h1.symm
theorem n_N {W:World}{base:Nat}{t:TypeId}{fs:Array Field}{v:Value}(ht:Tryz.prog.underlying t=some (.struct fs))(h:Value.okWide Tryz.prog W .any base t v):∃ cs,v=.agg cs:=by
 unfold Value.okWide at h;rw [ht] at h;obtain ⟨cs,h,-⟩:=h;exact ⟨cs,h⟩
theorem D_Q {W:World}{base:Nat}{t e:TypeId}{v:Value}{a:OA}{l c:Nat}(ht:Tryz.prog.underlying t=some (.slice e))(h:Value.okWide Tryz.prog W .any base t v)(hc:v.cells.toList=[.slice a l c]):v=.slice a l c:=by
 cases v with
 | agg cs=>
  unfold Value.okWide at h;rw [ht] at h;simp only [Cell.okWide,Cell.ok,ht] at h
 | slice a' l' c'=>simpa [Value.cells] using hc
 | _=>simp [Value.cells] at hc
abbrev laid0:List (String × DataW Unit):=[("math/bits.deBruijn32tab",Rows.laid_math_bits_deBruijn32tab),("math/bits.deBruijn64tab",Rows.laid_math_bits_deBruijn64tab),("internal/strconv.uint64pow10",Rows.laid_internal_strconv_uint64pow10)]
theorem table {W:World}(h:laidMetH Tryz.prog laid0 W):Lib.TabIs Tryz.prog W "internal/strconv.uint64pow10" .u64 Lib.pow10Tab:=by
 have h:laidMet Tryz.prog laid0 W:=h;obtain ⟨ps,⟨_,_,_,_,_,_,_,_,_,_,⟨_,_,_,_,_,_,_,_,_,_,⟨g',t',cs,fuel,p,q,hg',ht',hvar,hd,_,_⟩,_⟩,_⟩,_⟩:=h;have e:(Rows.laid_internal_strconv_uint64pow10:DataW Unit)=Lib.tabData .u64 Lib.pow10Tab:=by kernel_rfl
 rw [e] at hd;have hg:Tryz.prog.globalNamed "internal/strconv.uint64pow10" =some (Tryz.lays171_ren.g 17):=Tryz.lays171.m17;have hty:(Tryz.prog.globals[Tryz.lays171_ren.g 17]?).map (·.type)=some 338:=by kernel_rfl
 obtain rfl:=Option.some.inj (hg.symm.trans hg');obtain rfl:=Option.some.inj (hty.symm.trans ht');unfold Lib.TabIs;rw [hvar,<- Lib.cells_of_tab Tryz.underlying338 Tryz.underlying249 (by kernel_rfl) (by kernel_rfl) hd]
abbrev LawSV (f:FuncId):Prop:=∀ [DB] {s:List JN} {w:World} {a:OA} {l c:Nat},RJNs w a l c s->(∀ x∈s,smN x)->∀ {v:JV} {cs:List Value},RJV w v cs->szJ v<=1100000->y_C w->DB.B<=w.heap.size->
  CP f #[.slice a l c,.agg cs.toArray] w fun e w'=>e=.returned (.bool true)/\EF w w'
theorem E_B {f:FuncId}(law:LawSV f){fn:Func}(hp:fn.params=#[23,27])(hr:fn.resultTypes=#[4]){s:ChangeSpec}(hv:s.vars=[])
  (hs:∀ (H:Type) (x y:DataW H),s.fn H [x,y]={ results:=[.lit (.bool true)],args:=[x,y]}) (H:Type) (enc:TypeId × Value->H) (W:World) (base:Nat) (args:Array Value) (ds gs:List (DataW H)) (before:List MemPlace)
  (hval:∀ (j:Nat) t v,fn.params[j]? =some t->args[j]? =some v->Value.okWide Tryz.prog W .any base t v)
  (hW:DataW.Whole enc Tryz.prog fn.params.toList s.vars false W args.toList ds gs before) (hk:Rows.uptoSmall H (ds++gs)=true) (hL:laidMetH Tryz.prog laid0 W):
  CP f args W fun e W'=>∃ v,e=.returned v/\s.post enc Tryz.prog fn false true false false W args v W':=by
 have hlt:=hW.lt;have hW':=hW;obtain ⟨p,q,hA,hV,rfl,hfz,hnd⟩:=hW;rw [hv] at hV;obtain ⟨rfl,rfl⟩:=trodVars_none hV;rw [hp] at hA hval;obtain ⟨v,v',d,d',p,p',rfl,rfl,rfl,h1,h2⟩:=trodAll_two hA;have hv0:Value.okWide Tryz.prog W .any base 23 v:=hval 0 23 v rfl rfl;have hv1:Value.okWide Tryz.prog W .any base 27 v':=hval 1 27 v' rfl rfl;clear hval;obtain ⟨cs',rfl⟩:=n_N Tryz.underlying27 hv1;have hb:Rows.uptoBulkAll [d,d']<=1048576:=by
  have:=odt hk;simpa using this
 simp only [Rows.uptoBulkAll] at hb;have h1':=h1;have h2':=h2;obtain ⟨n1,t1⟩:=h1';obtain ⟨n2,t2⟩:=h2'
 letI:DB:=⟨W.heap.size⟩
 have hB:W.heap.size<=DB.B:=Nat.le_refl _;obtain ⟨a,l,c,ss,e1,r1,r2,-⟩:=C_c (enc:=enc) (N:=1048576) hB (by omega) ⟨n1,d,p,t1,by omega⟩;obtain ⟨jv,-, r3,r4⟩:=E_y (enc:=enc) 1048576 hB (by omega) ⟨n2,d',p',t2,by omega⟩;obtain rfl:v=.slice a l c:=D_Q Tryz.underlying23 hv0 e1;have key:=law r1 r2 r3 (by omega) (E_t (table hL)) (Nat.le_refl _);rw [Array.toArray_toList] at key;refine key.mono ?_;rintro _ W' ⟨rfl,hx⟩;refine ⟨.bool true,rfl,[d,d'],[],_,[],p++p',[],hW',?_,?_,?_,o_f hx _,nofun⟩
 ·simp only [List.append_nil];rw [hs,hr];exact trodAll_cons_mk (shut_bool Tryz.underlying4 _) trodAll_mk0
 ·simp only [List.append_nil];rw [hs,hp];exact trodAll_mk2 (l_l hx (odt (by kernel_rfl)) h1 fun p hp=>hlt p (by simp [hp])) (l_l hx (odt (by kernel_rfl)) h2 fun p hp=>hlt p (by simp [hp]))
 ·simp only [List.append_nil];rw [hv,hs];rfl
end Go.Proofs.YtdakokhbeoohlaaGreatDoor
namespace Go.Proofs.YtdakokhbeoohlaaGreatDoor
open Go Go.VC Go.ChangeShapes Go.WideShapes Go.ChangeAt Go.RowKit
 noncomputable def laidWorld (os:Os):World:=
 { World.holding Tryz.prog os ⟨#[],#[],[]⟩ with heap:=((((World.holding Tryz.prog os ⟨#[],#[],[]⟩).heap.modify (Tryz.lays171_ren.g 18) fun
   | .cells _ t frozen=>.cells #[.int .u8 0,.int .u8 1,.int .u8 28,.int .u8 2,.int .u8 29,.int .u8 14,.int .u8 24,.int .u8 3,.int .u8 30,.int .u8 22,.int .u8 20,.int .u8 15,.int .u8 25,.int .u8 17,.int .u8 4,.int .u8 8,.int .u8 31,.int .u8 27,.int .u8 13,.int .u8 23,.int .u8 21,.int .u8 19,.int .u8 16,.int .u8 7,.int .u8 26,.int .u8 12,.int .u8 18,.int .u8 6,.int .u8 11,.int .u8 5,.int .u8 10,.int .u8 9] t frozen
   | o=>o).modify (Tryz.lays171_ren.g 19) fun
   | .cells _ t frozen=>.cells #[.int .u8 0,.int .u8 1,.int .u8 56,.int .u8 2,.int .u8 57,.int .u8 49,.int .u8 28,.int .u8 3,.int .u8 61,.int .u8 58,.int .u8 42,.int .u8 50,.int .u8 38,.int .u8 29,.int .u8 17,.int .u8 4,.int .u8 62,.int .u8 47,.int .u8 59,.int .u8 36,.int .u8 45,.int .u8 43,.int .u8 51,.int .u8 22,.int .u8 53,.int .u8 39,.int .u8 33,.int .u8 30,.int .u8 24,.int .u8 18,.int .u8 12,.int .u8 5,.int .u8 63,.int .u8 55,.int .u8 48,.int .u8 27,.int .u8 60,.int .u8 41,.int .u8 37,.int .u8 16,.int .u8 46,.int .u8 35,.int .u8 44,.int .u8 21,.int .u8 52,.int .u8 32,.int .u8 23,.int .u8 11,.int .u8 54,.int .u8 26,.int .u8 40,.int .u8 15,.int .u8 34,.int .u8 20,.int .u8 31,.int .u8 10,.int .u8 25,.int .u8 14,.int .u8 19,.int .u8 9,.int .u8 13,.int .u8 8,.int .u8 7,.int .u8 6] t frozen
   | o=>o).modify (Tryz.lays171_ren.g 17) fun
   | .cells _ t frozen=>.cells #[.int .u64 1,.int .u64 10,.int .u64 100,.int .u64 1000,.int .u64 10000,.int .u64 100000,.int .u64 1000000,.int .u64 10000000,.int .u64 100000000,.int .u64 1000000000,.int .u64 10000000000,.int .u64 100000000000,.int .u64 1000000000000,.int .u64 10000000000000,.int .u64 100000000000000,.int .u64 1000000000000000,.int .u64 10000000000000000,.int .u64 100000000000000000,.int .u64 1000000000000000000,.int .u64 10000000000000000000] t frozen
   | o=>o)}
end Go.Proofs.YtdakokhbeoohlaaGreatDoor
