/- Part of the proof of a law of a rule over documents (RootsA), where what the arguments hold is of bulk at most 1048576. -/
import Derived.Test.YtcfdmdgahpikeaaGreatBaseB
import Derived.Test.YtcfdmdgahpikeaaGreatWalkD
import Derived.Test.YtcfdmdgahpikeaaGreatLawA
set_option linter.unusedVariables false
set_option linter.unusedSimpArgs false
set_option linter.unusedSectionVars false
set_option linter.deprecated false
namespace Go.VC
open Go Go.Proofs
set_option maxRecDepth 100000
theorem q_rules_KnownRootTypeRule (a : OA) (b : Value) (w : World) (R : EW) (h :
 (b.oneCell' = true /\ True) /\ (let c := w.alloc (.cells #[b] 130);
 C0 71 #[.pointer a, (.func (.func 72) #[] #[(.pointer (some (adr w.heap.size)))])] c (fun d => True /\ R (.returned (.tuple #[])) d))) : CP 34 #[.pointer a, b] w R :=
 vcq Tryz.func34 [] [] [.l (.optr a), .l (.val b)] h
theorem q_rules_KnownRootTypeRule_1 (a : OA) (b : OA) (c : Addr) (w : World) (R : EW) (h :
 ∀ d : OA -> World -> Prop, (∀ e : OA, ∀ f : World,
 ((Br (e.isNone) (∀ g, g = f.drew -> Lv g c fun i => Pt b fun j => Ls g (j.add 1) fun k => Pt b fun l => Lp g (l.add 6) fun m => True /\ (let n := g.alloc (.cells #[(ifcV (some (135, (.string k))))] 20);
 ((n.cell? (l.add 6) = g.cell? (l.add 6)) /\ (n.cell? c = g.cell? c) /\ True) /\ CP 73 #[(.string (⟨#[83,99,104,101,109,97,32,100,111,101,115,32,110,111,116,32,115,117,112,112,111,114,116,32,111,112,101,114,97,116,105,111,110,32,116,121,112,101,32,34,37,115,34]⟩ : BA)), (.slice (some (adr g.heap.size)) 1 1)] n (fun o p => ∃ q : Value, o = .returned q /\ True /\ ((p.cell? (l.add 6) = n.cell? (l.add 6)) /\ (p.cell? c = n.cell? c) /\ True) /\ CP 74 #[.pointer m] p (fun r s => ∃ t : Value, r = .returned t /\ True /\ ((s.cell? c = p.cell? c) /\ True) /\ (q.oneCell' = true /\ t.oneCell' = true /\ True) /\ (let u := s.alloc (.cells #[q, t] 156);
 ((u.cell? c = s.cell? c) /\ True) /\ ∃ v x, i = .func (.func v) #[] x.toArray /\ ∃ y, Tryz.prog.funcs[v]? = some y /\ (y.name == "runtime.NumGoroutine" || y.body.isNone) = false /\ CP v ([(.slice (some (adr s.heap.size)) 2 2)] ++ x).toArray u (fun z A => z = .returned (.tuple #[]) /\ True /\ True /\ R (.returned (.tuple #[])) A)))))) (R (.returned (.tuple #[])) f))) ->
 d e f) ->
 Pt b fun B => Ls w (B.add 1) fun C => ∀ D : Bool -> World -> Prop, (∀ E : Bool, ∀ F : World,
 ((Br E (Pt a fun G => Lp F (G.add 1) fun H => Pt H fun I => Lp F I fun J => d J F) ((Br (C.toList == (⟨#[109,117,116,97,116,105,111,110]⟩ : BA).toList) (Pt a fun K => Lp F (K.add 1) fun L => Pt L fun M => Lp F (M.add 1) fun N => d N F) ((Br (C.toList == (⟨#[115,117,98,115,99,114,105,112,116,105,111,110]⟩ : BA).toList) (Pt a fun O => Lp F (O.add 1) fun P => Pt P fun Q => Lp F (Q.add 2) fun S => d S F) (False))))))) ->
 D E F) ->
 (Br (C.toList == (⟨#[113,117,101,114,121]⟩ : BA).toList) (D true w) (D (C.toList == (⟨#[]⟩ : BA).toList) w))) : CP 72 #[.pointer a, .pointer b, (.pointer (some c))] w R :=
 vcq Tryz.func72 [] [(2, ⟨[(5, .ptr)],[]⟩), (6, ⟨[(11, .bool)],[]⟩)] [.l (.optr a), .l (.optr b), .l (.ptr c)] h
theorem q_impl_RKnownRootType (a : OA) (b c : Nat) (d : OA) (e f : Nat) (g : BA) (i : BA) (j : BA) (k : OA) (l m : Nat) (n : OA) (o p : Nat) (q : OA) (r s : Nat) (t : OA) (u v : Nat) (w : World) (R : EW) (h :
 True /\ (let x := w.alloc (.cells #[.slice a b c, .slice d e f, .string g, .string i, .string j, .slice k l m, .slice n o p] 40);
 True /\ (let y := x.alloc (.cells #[.slice q r s, .slice t u v] 30);
 CP 33 #[(.agg #[.slice a b c, .slice d e f, .string g, .string i, .string j, .slice k l m, .slice n o p]), (.agg #[.slice q r s, .slice t u v]), (.func (.func 34) #[] #[])] y (fun z A => ∃ B, ∃ C, z = .returned (.tuple #[.int .i64 B, .bool C]) /\ (KeepT 40 y A /\ KeepT 30 y A /\ True) /\ R (.returned (.tuple #[.int .i64 B, .bool C])) A)))) : CP 13 #[(.agg #[.slice a b c, .slice d e f, .string g, .string i, .string j, .slice k l m, .slice n o p]), (.agg #[.slice q r s, .slice t u v])] w R :=
 vcq Tryz.func13 [2, 3] [] [.agg [.slice a b c, .slice d e f, .str g, .str i, .str j, .slice k l m, .slice n o p], .agg [.slice q r s, .slice t u v]] h
theorem q_World_NoRoot (a : OA) (b : OA) (c d : Nat) (e : OA) (f g : Nat) (w : World) (R : EW) (h :
 True /\ (let i := w.alloc (.cells #[.slice b c d, .slice e f g] 30);
 ∃ (j : Int -> World -> Prop) (k : Int -> World -> Nat), j 0 i /\
 (∀ l : Int, ∀ m : World, j l m ->
 (Br (decide (l < (c : Int))) (Ix b l c fun n => L_sslll m (n.add (l.toNat * 5)) fun o p q r s t u v x y z => True /\ (let A := m.alloc (.cells #[(.string (⟨#[]⟩ : BA)), (.string (⟨#[]⟩ : BA)), .slice none 0 0, .slice none 0 0, .slice none 0 0] 50);
 True /\ (let B := m.alloc (.cells #[.string o, .string p, .slice q r s, .slice t u v, .slice x y z] 50);
 Cs 36 #[.pointer a, .string o] B (fun C D => (KeepT 30 B D /\ KeepT 50 B D /\ True) /\ (Br (C.toList == (⟨#[]⟩ : BA).toList) (R (.returned (.bool true)) D) ((j (IntKind.i64.wrap (l + 1)) D /\ k (IntKind.i64.wrap (l + 1)) D < k l m))))))) (R (.returned (.bool false)) m))))) : CP 16 #[.pointer a, (.agg #[.slice b c d, .slice e f g])] w R :=
 vcq Tryz.func16 [3, 6] [(6, ⟨[(10, .int .i64)],[]⟩)] [.l (.optr a), .agg [.slice b c d, .slice e f g]] h
theorem q_laws_FnRuleRoots (a : OA) (b c : Nat) (d : OA) (e f : Nat) (g : OA) (i j : Nat) (k : OA) (l m : Nat) (n : OA) (o p : Nat) (q : OA) (r s : Nat) (t : OA) (u v : Nat) (w : World) (R : EW) (h :
 True /\ (let x := w.alloc (.cells #[.slice a b c, .slice d e f, .slice g i j, .slice k l m, .slice n o p] 26);
 True /\ (let y := x.alloc (.cells #[.slice q r s, .slice t u v] 30);
 ∀ z : Bool -> World -> Prop, (∀ A : Bool, ∀ B : World,
 ((Br A (R (.returned (.bool true)) B) (CP 11 #[(.agg #[.slice a b c, .slice d e f, .slice g i j, .slice k l m, .slice n o p])] B (fun C D => ∃ E, ∃ F, C = .returned (.tuple #[.pointer E, .bool F]) /\ (KeepT 26 B D /\ KeepT 30 B D /\ True) /\ ∀ G : Bool -> World -> Prop, (∀ H : Bool, ∀ I : World,
 ((Br H (R (.returned (.bool true)) I) (∀ J, J = I.drew -> CP 14 #[.pointer E] J (fun K L => ∃ M N O, ∃ P Q S, ∃ U, ∃ V, ∃ W, ∃ X Y Z, ∃ aa ab ac, K = .returned (.agg #[.slice M N O, .slice P Q S, .string U, .string V, .string W, .slice X Y Z, .slice aa ab ac]) /\ (KeepT 26 J L /\ KeepT 30 J L /\ True) /\ ((0 = 0) /\ True) /\ CP 13 #[(.agg #[.slice M N O, .slice P Q S, .string U, .string V, .string W, .slice X Y Z, .slice aa ab ac]), (.agg #[.slice q r s, .slice t u v])] L (fun ad ae => ∃ af, ∃ ag, ad = .returned (.tuple #[.int .i64 af, .bool ag]) /\ (KeepT 26 L ae /\ KeepT 30 L ae /\ True) /\ True /\ True /\ True /\ Cb 16 #[.pointer E, (.agg #[.slice q r s, .slice t u v])] ae (fun ah ai => (KeepT 26 ae ai /\ KeepT 30 ae ai /\ True) /\ Cb 15 #[.int .i64 af, .bool ag, .bool ah] ai (fun aj ak => (KeepT 26 ai ak /\ KeepT 30 ai ak /\ True) /\ R (.returned (.bool aj)) ak))))))) ->
 G H I) ->
 (Nr (!F) (Cb 12 #[(.agg #[.slice q r s, .slice t u v])] D (fun al am => (KeepT 26 D am /\ KeepT 30 D am /\ True) /\ G (!al) am)) (G true D)))))) ->
 z A B) ->
 Cb 9 #[(.agg #[.slice a b c, .slice d e f, .slice g i j, .slice k l m, .slice n o p])] y (fun an ao => (KeepT 26 y ao /\ KeepT 30 y ao /\ True) /\ (Nr (!an) (Cb 10 #[(.agg #[.slice q r s, .slice t u v])] ao (fun ap aq => (KeepT 26 ao aq /\ KeepT 30 ao aq /\ True) /\ z (!ap) aq)) (z true ao)))))) : CP 3 #[(.agg #[.slice a b c, .slice d e f, .slice g i j, .slice k l m, .slice n o p]), (.agg #[.slice q r s, .slice t u v])] w R :=
 vcq Tryz.func3 [2, 3] [(3, ⟨[(16, .bool)],[]⟩), (13, ⟨[(28, .bool)],[]⟩)] [.agg [.slice a b c, .slice d e f, .slice g i j, .slice k l m, .slice n o p], .agg [.slice q r s, .slice t u v]] h
end Go.VC
namespace Go.VC
open Go Go.Proofs
set_option maxRecDepth 100000
theorem q_core_Events_OnOperation (a : OA) (b : Value) (w : World) (R : EW) (h :
 Pt a fun c => Ll w c fun d e f => (b.oneCell' = true /\ True) /\ (let g := w.alloc (.cells #[b] 159);
 ∃ i j k, ∃ l, (Go.builtin .append #[116, 116] 116 #[false, false] #[.slice d e f, (.slice (some (adr w.heap.size)) 1 1)]).run Tryz.prog g = .ok (.value (.slice i j k)) l /\ True /\ Pt a fun m => Off l m 1 [] /\ True /\ (let n := (l.setCell m (.slice i j k));
 R (.returned (.tuple #[])) n))) : CP 71 #[.pointer a, b] w R :=
 vcq Tryz.func71 [] [] [.l (.optr a), .l (.val b)] h
end Go.VC
namespace Go.VC
open Go Go.Proofs
variable [DB]
theorem c_core_Events_OnOperation {eb : Nat} {f : Value} {evs : List Value} {w : World} (hf : smallV f) (hB : Blk w eb 126 evs) (hj : evs[0]? = some (.slice none 0 0)) :
  CP 71 #[.pointer (some (adr eb)), f] w fun e w' => e = .returned (.tuple #[]) /\ ∃ (p : Addr) (C : Nat), Blk w' eb 126 (evs.set 0 (.slice (some p) 1 C)) /\ At w' 159 p f /\ w.heap.size <= p.block /\ Ext (fun b => b = eb) w w' := by
 obtain ⟨p, C, w7, r7, ha, hp, hx, -⟩ := on_append 116 159 Tryz.t159 _ _ (by kernel_rfl) (by kernel_rfl) rfl (by kernel_rfl) rfl (by kernel_rfl) (by decide) (w := w) hf 116 #[false, false]
 have hB7 := hB.ext hx id
 have hlt := hB.lt
 have hl : 0 + 1 <= evs.length := (List.getElem?_eq_some_iff.1 hj).1
 have hs : Ext (fun b => b = eb) w7 (w7.setCell ⟨eb, 0, none⟩ (.slice (some p) 1 C)) := Ext.setCell (X := fun b => b = eb) (Ext.refl _) (a := ⟨eb, 0, none⟩) (.inl rfl) _
 refine q_core_Events_OnOperation (some (adr eb)) f w _ ⟨adr eb, rfl, none, 0, 0, (hB.at (j := 0) hj).cell, ⟨hf.one, trivial⟩, some p, 1, C, w7, r7, trivial, adr eb, rfl, hB7.off (j := 0) (n := 1) (q := fun _ => false) hl rfl, trivial, rfl, p, C, hB7.set 0 _, hs.at (by show ¬ p.block = eb; omega) ha, hp, (hx.toM _).trans hs fun _ _ e => e⟩
end Go.VC
namespace Go.VC
open Go Go.Proofs
variable [DB]
def rootN (c : WCtx) (k : BA) : BA := if k = bQuery then c.rq else if k = bMut then c.rm else c.rs
def badRoot (c : WCtx) : Ev -> Prop
 | .op o => lastN Def.name c.types (rootN c o.kind) = none
 | _ => False
theorem c_Roots_1 {c : WCtx} {ae cnt : Nat} {bad : Ev -> Prop} {l : List Ev} {w : World} {co : OA} {vm : Nat} {evs : List Value} {node : Value} {ev : Ev} (hb : Base c) (hbad : ∀ e, bad e ↔ badRoot c e) (hok : ∀ x ∈ c.ops, okKind x.kind) (hVM : ∀ b, (b = cnt ∨ b = ae) -> ¬ c.M b) (hne : ae ≠ cnt) (hc : StB bad ae cnt l w) (hw : Wst c co vm evs w) (hk : slot ev = 0) (hn : evNode c w node ev) :
  CP 72 #[.pointer (some (adr c.wb)), node, .pointer (some (adr ae))] w fun e w' => e = .returned (.tuple #[]) /\ Ext (fun b => b = cnt ∨ b = ae) w w' /\ StB bad ae cnt (l ++ [ev]) w' := by
 cases ev with
 | op o =>
  obtain ⟨b, A, L, C, rfl, hp, ho, -⟩ := hn
  obtain ⟨A1, L1, C1, A2, L2, C2, A3, L3, C3, pos, hM, hB, -⟩ := hp
  have hkind := hok o ho
  obtain ⟨q1, q2, q3, s, hS, o1, o2, o3⟩ := hb.sch
  have k1 := hw.wk.nd hb.sb hS (j := 0) rfl rfl
  have k2 := hw.wk.nd hb.sb hS (j := 1) rfl rfl
  have k3 := hw.wk.nd hb.sb hS (j := 2) rfl rfl
  have z1 := (hw.walker.at (j := 1) rfl).cell
  refine q_rules_KnownRootTypeRule_1 (some (adr c.wb)) (some (adr b)) (adr ae) w _ fun K4 hK4 => ?_
  have key4 : ∀ q, (q.isNone = true ↔ badRoot c (.op o)) -> K4 q w := by
   intro q hq
   refine hK4 q w ⟨fun hno => ?_, fun hyes => ⟨rfl, Ext.refl w, hc.good fun hbd => absurd (hq.2 ((hbad _).1 hbd)) (by rw [hyes]; decide)⟩⟩
   intro w7 e7
   have x7 : Ext (fun _ => False) w w7 := by rw [e7]; exact (Ext.refl w).drew
   have c7 := Cnt.ext hc x7 id id
   have wk7 := hw.wk.trans (Wk.ofExt x7 fun _ _ => id)
   have a7 := wk7.at (a := ⟨b, 6, none⟩) hM (hB.at (j := 6) rfl) rfl
   refine ⟨_, (c7.1.at (j := 0) rfl).cell, adr b, rfl, o.kind, wk7.nd hM hB (j := 1) rfl rfl, adr b, rfl, pos, a7.cell, trivial, ?_⟩
   exact tell c7 a7 hne ((Ext.refl w7).alloc _) rfl fun w' x' c' => ⟨rfl, (x7.toM _).trans x' fun _ _ e => e, StB.told c' ((hbad _).2 (hq.1 hno))⟩
  refine ⟨adr b, rfl, o.kind, hw.wk.nd hM hB (j := 1) rfl rfl, fun K28 hK28 => ?_⟩
  have key28 : ∀ z : Bool, (z = true ↔ o.kind = bQuery ∨ o.kind = E0) -> K28 z w := by
   intro z hz
   refine hK28 z w ⟨fun h => ⟨adr c.wb, rfl, _, z1, adr c.sb, rfl, q1, k1, key4 q1 (o1.isNone.trans ?_)⟩, fun h => ?_⟩
   ·have hq : o.kind = bQuery := (hz.1 h).resolve_right fun e => by
     rcases hkind with k | k | k <;> rw [k] at e <;> exact absurd e (by decide)
    show _ ↔ lastN Def.name c.types (rootN c o.kind) = none
    rw [rootN, if_pos hq]
   have hnq : o.kind ≠ bQuery := fun k => by
    rw [hz.2 (.inl k)] at h
    cases h
   refine ⟨fun hm => ⟨adr c.wb, rfl, _, z1, adr c.sb, rfl, q2, k2, key4 q2 (o2.isNone.trans ?_)⟩, fun hm => ⟨fun hs => ⟨adr c.wb, rfl, _, z1, adr c.sb, rfl, q3, k3, key4 q3 (o3.isNone.trans ?_)⟩, fun hs => ?_⟩⟩
   ·show _ ↔ lastN Def.name c.types (rootN c o.kind) = none
    rw [rootN, if_neg hnq, if_pos (bytes_beq_t.1 hm)]
   ·show _ ↔ lastN Def.name c.types (rootN c o.kind) = none
    rw [rootN, if_neg hnq, if_neg (bytes_beq_f.1 hm)]
   ·rcases hkind with k | k | k
    ·exact hnq k
    ·exact bytes_beq_f.1 hm k
    ·exact bytes_beq_f.1 hs k
  exact ⟨fun hq => key28 true ⟨fun _ => .inl (bytes_beq_t.1 hq), fun _ => rfl⟩, fun hq => key28 _ ⟨fun h => .inr (bytes_beq_t.1 h), fun h => bytes_beq_t.2 (h.resolve_left (bytes_beq_f.1 hq))⟩⟩
 | _ => cases hk
theorem root_none {types : List Def} {dirs : List DirDef} {defs : List SchemaDef} (h : OkSchema types dirs defs) (k : BA) : lastN Def.name (preTypes ++ types) (rootD (rootsOf types defs) k) = none ↔ rootD (rootsOf types defs) k = E0 := by
 rw [wide_find h]
 have h0 := find_E0 h
 unfold rootD
 cases hf : (rootsOf types defs).find? (fun r => r.op.toList == k.toList) with
 | none =>
  show (if (findD types E0).2 = true then _ else _) = none ↔ E0 = E0
  rw [h0]
  simp
 | some r =>
  have hk := h.roots.2.2.2 r (List.mem_of_find?_eq_some hf)
  have h2 : (findD types r.t).2 = true := by
   cases hh : (findD types r.t).2 with
   | true => rfl
   | false =>
    rw [find_no hh] at hk
    exact absurd hk (by decide)
  show (if (findD types r.t).2 = true then _ else _) = none ↔ r.t = E0
  rw [if_pos h2]
  constructor
  ·intro e; cases e
  ·intro e
   rw [e, h0] at h2
   cases h2
theorem rootsRule (types : List Def) (dirs : List DirDef) (defs : List SchemaDef) (ops : List OpD) (frags : List Frag) (hO : OkSchema types dirs defs) (h12 : ops.length <= 12) (h12' : frags.length <= 12) (ok1 : ∀ x ∈ ops, okOp x) (hs : selTot ops frags <= 2097152) :
  RuleOK 34 (wideD types dirs (rootsOf types defs)) ops frags fun n => 0 <= n /\ (n > 0 ↔ ∃ x ∈ ops, rootD (rootsOf types defs) x.kind = E0) := by
 refine ⟨⟨_, Tryz.func34, by kernel_rfl⟩, ?_⟩
 intro c cnt hops hfrags hwd hb hB hcnt hne hMc hMe
 subst hops
 subst hfrags
 have x3 : Ext (fun _ => False) c.w0 (c.w0.alloc (.cells #[.func (.func 69) #[] #[.pointer (some (adr cnt))]] 130)) := (Ext.refl c.w0).alloc _
 have Bae := Blk.made c.w0 130 [.func (.func 69) #[] #[.pointer (some (adr cnt))]]
 refine q_rules_KnownRootTypeRule (some (adr c.eb)) _ c.w0 _ ⟨⟨rfl, trivial⟩, ?_⟩
 have hlc := hcnt.lt
 have hle := hB.lt
 generalize hw3 : c.w0.alloc (.cells #[.func (.func 69) #[] #[.pointer (some (adr cnt))]] 130) = w3
 replace x3 : Ext (fun _ => False) c.w0 w3 := by rw [<- hw3]; exact x3
 replace Bae : Blk w3 c.w0.heap.size 130 [.func (.func 69) #[] #[.pointer (some (adr cnt))]] := by rw [<- hw3]; exact Bae
 clear hw3
 have hla := Bae.lt
 refine (c_core_Events_OnOperation (f := .func (.func 72) #[] #[.pointer (some (adr c.w0.heap.size))]) rfl (hB.ext x3 id) rfl).mono ?_
 rintro _ w5 ⟨rfl, p, C, B5, ap, hpb, x5⟩
 have y5 : Ext (fun b => b = c.eb) c.w0 w5 := (x3.toM _).trans x5 fun _ _ e => e
 have hz5 := x5.size
 have hz3 := x3.size
 have hae : c.w0.heap.size ≠ cnt := by omega
 have Bae5 := Bae.ext x5 (by show ¬ c.w0.heap.size = c.eb; omega)
 have Bc5 := hcnt.ext y5 hne
 refine ⟨rfl, trivial, rfl, y5, fun b => b = cnt ∨ b = c.w0.heap.size, StB (badRoot c) c.w0.heap.size cnt, obL [(0, p, C)], ?_, fun b hb' => ?_, fun b hb' T cs fr ho => ?_, fun l w'' hl ht => ?_⟩
 ·have hVM : ∀ b, (b = cnt ∨ b = c.w0.heap.size) -> ¬ c.M b := fun b hV hM => by
   have := hb.m b hM
   rcases hV with rfl | rfl
   ·exact hMc hM
   ·omega
  refine rule_one hb hMe y5 (fun b hb' => hb'.imp id fun e => by omega) hlc hne hMc hle (fun l w w'' h hx => Cnt.ext h hx (fun e => e (.inr rfl)) fun e => e (.inl rfl)) (Cnt.zero Bae5 Bc5 (by simp)) B5 fun b5 wb fm fl j => vis_all (fun x hx => ?_) j
  obtain rfl : x = (0, p, C) := by simpa using hx
  refine ⟨_, _, [.pointer (some (adr c.w0.heap.size))], _, ap, fun h => ?_, fun h => ?_, Tryz.func72, by kernel_rfl, fun l w1 co vm evs node ev hl hw hk hn => c_Roots_1 (b5.at3 wb fm fl) (fun e => Iff.rfl) (fun x hx => (ok1 x hx).1) hVM hae hl hw hk hn⟩
  ·have : p.block < c.w0.heap.size := hb.m _ h
   omega
  ·have : p.block = cnt ∨ p.block = c.w0.heap.size := h
   omega
 ·rcases hb' with rfl | rfl
  ·exact .inr (Nat.le_refl _)
  ·exact .inr (by omega)
 ·rcases hb' with rfl | rfl
  ·rw [Bc5.type ho]; decide
  ·rw [Bae5.type ho]; decide
 ·obtain ⟨-, n, hn, hk⟩ := hl
  have hsm := spN_small (c := { c with V := fun b => b = cnt ∨ b = c.w0.heap.size, St := StB (badRoot c) c.w0.heap.size cnt, w0 := w5 }) (ob := obL [(0, p, C)]) rfl rfl rfl h12 h12' hs (vars_few (c := c) hb.query)
  obtain ⟨k1, k2, k3⟩ := hk (Nat.le_trans (Nat.le_trans ht.few hsm) (by decide))
  refine ⟨n, hn, k1, k3.trans ((ht.bad fun e hbad => ?_).trans ?_)⟩
  ·cases e with
   | op o => rfl
   | _ => cases hbad
  ·obtain ⟨e1, e2, e3, e4, e5⟩ := hwd
   have key : ∀ x ∈ c.ops, badRoot c (.op x) ↔ rootD (rootsOf types defs) x.kind = E0 := fun x hx => by
    show lastN Def.name c.types (rootN c x.kind) = none ↔ _
    rw [e1, rootN, e3, e4, e5]
    show lastN Def.name (preTypes ++ types) (if x.kind = bQuery then rootD (rootsOf types defs) bQuery else if x.kind = bMut then rootD (rootsOf types defs) bMut else rootD (rootsOf types defs) bSub) = none ↔ _
    rcases (ok1 x hx).1 with k | k | k <;> rw [k]
    ·rw [if_pos rfl]; exact root_none hO _
    ·rw [if_neg (by decide), if_pos rfl]; exact root_none hO _
    ·rw [if_neg (by decide), if_neg (by decide)]; exact root_none hO _
   constructor
   ·rintro ⟨e, hdoc, hbad⟩
    cases e with
    | op o =>
     rcases hdoc with ⟨x, hx, he⟩ | ⟨x, hx, he⟩
     ·obtain rfl := op_op.1 he
      exact ⟨o, hx, (key o hx).1 hbad⟩
     ·exact absurd he op_fr
    | _ => cases hbad
   ·rintro ⟨x, hx, hz⟩
    exact ⟨.op x, .inl ⟨x, hx, op_op.2 rfl⟩, (key x hx).2 hz⟩
theorem c_World_NoRoot {k : Nat} {A4 : OA} {L4 C4 : Nat} {A : OA} {L C : Nat} {A3 : OA} {L3 C3 : Nat} {roots : List RootD} {a : OA} {l c : Nat} {a' : OA} {l' c' : Nat} {ops : List OpD} {w : World} (hB : Blk w k 68 [.slice A4 L4 C4, .slice A L C, .slice A3 L3 C3]) (hR : RRoots w A L C roots) (hl : ROps w a l c ops) :
  CP 16 #[.pointer (some (adr k)), .agg #[.slice a l c, .slice a' l' c']] w (RetB w fun b => b = true ↔ ∃ x ∈ ops, rootD roots x.kind = E0) := by
 obtain ⟨e1, e3⟩ := hl.len
 have hx0 := (Ext.refl (X := fun _ => False) w).alloc (.cells #[.slice a l c, .slice a' l' c'] 30)
 refine q_World_NoRoot (some (adr k)) a l c a' l' c' w _ ⟨trivial, fun i w1 => 0 <= i /\ i <= l /\ Ext (fun _ => False) w w1 /\ ∀ x ∈ ops.take i.toNat, ¬ rootD roots x.kind = E0, fun i _ => ((l : Int) - i).toNat, ⟨by omega, by omega, hx0, by simp⟩, ?_⟩
 rintro i w7 ⟨h0, hi, hx, hno⟩
 refine ⟨fun hlt => ?_, fun hge => ?_⟩
 ·have hlt := of_decide_eq_true hlt
  obtain ⟨p, x, hp, hxs, cs, hc, a1, l1, c1, a2, l2, c2, a3, l3, c3, rfl, hv1, hv2, hv3⟩ := hl.get h0 hlt
  obtain ⟨⟨_, _, hc0⟩, hs0, ⟨_, _, hc1⟩, hs1, ⟨_, _, hc2⟩, hs2, ⟨_, _, hc3⟩, hs3, ⟨_, _, hc4⟩, -⟩ := hc
  have hx' := hx.alloc (.cells #[.string x.kind, .string x.name, .slice a1 l1 c1, .slice a2 l2 c2, .slice a3 l3 c3] 50)
  refine ⟨p, hp, ⟨h0, hlt⟩, _, hx.cell hc0 id, _, hx.cell hc1 id, _, _, _, hx.cell hc2 id, _, _, _, hx.cell hc3 id, _, _, _, hx.cell hc4 id, trivial, trivial, ?_⟩
  refine (c_World_Root (p := adr k) (op := x.kind) ((hB.ext hx' id).at (j := 1) rfl) (hR.keep hx'.keep)).mono ?_
  rintro _ w18 ⟨rfl, x18⟩
  refine ⟨_, rfl, ⟨x18.keepT _, x18.keepT _, trivial⟩, fun h => ⟨true, rfl, hx'.then x18, by simpa using ⟨x, List.mem_of_getElem? hxs, bytes_beq_t.1 h⟩⟩, fun h => ?_⟩
  rw [wrap_lt h0 (by omega)]
  exact next h0 hlt ⟨hx'.then x18, take_all_int h0 hno hxs (bytes_beq_f.1 h)⟩
 ·have hno := take_end e1 hge hno
  exact ⟨false, rfl, hx, nofun, fun ⟨x, hx, hb⟩ => absurd hb (hno x hx)⟩
end Go.VC
namespace Go.VC
open Go Go.Proofs
variable [DB]
theorem c_impl_RKnownRootType {P : Int -> Prop} {wd : WorldD} {a1 : OA} {l1 c1 : Nat} {a2 : OA} {l2 c2 : Nat} {a6 : OA} {l6 c6 : Nat} {a7 : OA} {l7 c7 : Nat} {q8 : OA} {q8l q8c : Nat} {q9 : OA} {q9l q9c : Nat} {ops : List OpD} {frags : List Frag} {w : World}
  (hw : RWorld w wd [.slice a1 l1 c1, .slice a2 l2 c2, .string wd.query, .string wd.mutation, .string wd.subscription, .slice a6 l6 c6, .slice a7 l7 c7]) (ok3 : ∀ x ∈ wd.dirs, ∀ y ∈ x.args, okArgDef y) (ok4 : ∀ x ∈ wd.types, okDef x)
  (few6 : (pushD wd.types wd.possible).length <= 4194304) (few7 : (pushD wd.types wd.implements).length <= 4194304) (hl1 : ROps w q8 q8l q8c ops) (hl2 : RFrags w q9 q9l q9c frags) (ok1 : ∀ x ∈ ops, okOp x) (ok2 : ∀ x ∈ frags, okFrag x) (hr : RuleOK 34 wd ops frags P) (hB0 : DB.B <= w.heap.size) :
  CP 13 #[.agg #[.slice a1 l1 c1, .slice a2 l2 c2, .string wd.query, .string wd.mutation, .string wd.subscription, .slice a6 l6 c6, .slice a7 l7 c7], .agg #[.slice q8 q8l q8c, .slice q9 q9l q9c]] w fun e w' =>
   ∃ n, e = .returned (.tuple #[.int .i64 n, .bool true]) /\ P n /\ Ext (fun _ => False) w w' := by
 have x11 : Ext (fun _ => False) w (w.alloc (.cells #[.slice a1 l1 c1, .slice a2 l2 c2, .string wd.query, .string wd.mutation, .string wd.subscription, .slice a6 l6 c6, .slice a7 l7 c7] 40)) := (Ext.refl w).alloc _
 have x12 := x11.alloc (.cells #[.slice q8 q8l q8c, .slice q9 q9l q9c] 30)
 refine q_impl_RKnownRootType a1 l1 c1 a2 l2 c2 wd.query wd.mutation wd.subscription a6 l6 c6 a7 l7 c7 q8 q8l q8c q9 q9l q9c w _ ⟨trivial, trivial, ?_⟩
 refine (c_impl_found (RWorld.keep x12.keep hw) ok3 ok4 few6 few7 (hl1.keep x12.keep) (hl2.keep x12.keep) ok1 ok2 hr (Nat.le_trans hB0 x12.size)).mono ?_
 rintro _ w' ⟨n, rfl, hp, hx⟩
 exact ⟨n, true, rfl, ⟨hx.keepT _, hx.keepT _, trivial⟩, n, rfl, hp, x12.then hx⟩
theorem c_law_FnRuleRoots {S : List Def -> List RootD -> List OpD -> List Frag -> Prop} (rule : ∀ types dirs defs ops frags, OkSchema types dirs defs -> ops.length <= 12 -> frags.length <= 12 -> (∀ x ∈ ops, okOp x) -> (∀ x ∈ frags, okFrag x) -> selTot ops frags <= 2097152 -> RuleOK 34 (wideD types dirs (rootsOf types defs)) ops frags fun n => 0 <= n /\ (n > 0 ↔ S types (rootsOf types defs) ops frags))
  (spec : ∀ {k : Nat} {A4 : OA} {L4 C4 : Nat} {A : OA} {L C : Nat} {A3 : OA} {L3 C3 : Nat} {types : List Def} {dirs : List DirDef} {defs : List SchemaDef} {a : OA} {l c : Nat} {a' : OA} {l' c' : Nat} {ops : List OpD} {frags : List Frag} {w : World}, Blk w k 68 [.slice A4 L4 C4, .slice A L C, .slice A3 L3 C3] -> RDefs w A4 L4 C4 types -> RRoots w A L C (rootsOf types defs) -> OkSchema types dirs defs -> ROps w a l c ops -> RFrags w a' l' c' frags -> (∀ x ∈ ops, okOp x) -> (∀ x ∈ frags, okFrag x) -> selTot ops frags <= 2097152 -> ops.length <= 12 -> frags.length <= 12 ->
   CP 16 #[.pointer (some (adr k)), .agg #[.slice a l c, .slice a' l' c']] w (RetB w fun b => b = true ↔ S types (rootsOf types defs) ops frags))
  {d1 : OA} {d1l d1c : Nat} {d2 : OA} {d2l d2c : Nat} {d3 : OA} {d3l d3c : Nat} {d4 : OA} {d4l d4c : Nat} {d5 : OA} {d5l d5c : Nat} {q6 : OA} {q6l q6c : Nat} {q7 : OA} {q7l q7c : Nat} {defs exts : List SchemaDef} {dirs : List DirDef} {types texts : List Def} {ops : List OpD} {frags : List Frag} {w : World}
  (h1 : RSchemaDefs w d1 d1l d1c defs) (h2 : RSchemaDefs w d2 d2l d2c exts) (h3 : RDirDefs w d3 d3l d3c dirs) (h4 : RDefs w d4 d4l d4c types) (h5 : RDefs w d5 d5l d5c texts) (hs : d1l + d2l <= 4194304) (hsp : selTot ops frags <= 2097152) (h6 : ROps w q6 q6l q6c ops) (h7 : RFrags w q7 q7l q7c frags) (hB0 : DB.B <= w.heap.size) :
  CP 3 #[.agg #[.slice d1 d1l d1c, .slice d2 d2l d2c, .slice d3 d3l d3c, .slice d4 d4l d4c, .slice d5 d5l d5c], .agg #[.slice q6 q6l q6c, .slice q7 q7l q7c]] w fun e w' => e = .returned (.bool true) /\ Ext (fun _ => False) w w' := by
 have x8 : Ext (fun _ => False) w (w.alloc (.cells #[.slice d1 d1l d1c, .slice d2 d2l d2c, .slice d3 d3l d3c, .slice d4 d4l d4c, .slice d5 d5l d5c] 26)) := (Ext.refl w).alloc _
 have x9 := x8.alloc (.cells #[.slice q6 q6l q6c, .slice q7 q7l q7c] 30)
 refine q_laws_FnRuleRoots d1 d1l d1c d2 d2l d2c d3 d3l d3c d4 d4l d4c d5 d5l d5c q6 q6l q6c q7 q7l q7c w _ ⟨trivial, trivial, fun K10 hK10 => ?_⟩
 have key10 : ∀ b w', Ext (fun _ => False) w w' -> K10 b w' := by
  intro b w' xw
  refine hK10 b w' ⟨fun _ => ⟨rfl, xw⟩, fun _ => ?_⟩
  refine (c_Build (h1.keep xw.keep) (h2.keep xw.keep) (h3.keep xw.keep) (h4.keep xw.keep) (h5.keep xw.keep) hs (Nat.le_trans hB0 xw.size)).mono ?_
  rintro _ w14 ⟨q15, b16, rfl, x14, hok⟩
  refine ⟨q15, b16, rfl, ⟨x14.keepT _, x14.keepT _, trivial⟩, fun K17 hK17 => ?_⟩
  have y14 := xw.then x14
  have key17 : ∀ b w', Ext (fun _ => False) w14 w' -> (b = false -> b16 = true /\ ops.length <= 12 /\ frags.length <= 12 /\ (∀ x ∈ ops, okOp x) /\ (∀ x ∈ frags, okFrag x)) -> K17 b w' := by
   intro b w19 x19 hb
   have y19 := y14.then x19
   refine hK17 b w19 ⟨fun _ => ⟨rfl, y19⟩, fun hbf => ?_⟩
   obtain ⟨hb16, n1, n2, ok1, ok2⟩ := hb hbf
   obtain ⟨k, rfl, A, L, C, hB, hR, hO⟩ := hok hb16
   intro w20 e20
   have x20 : Ext (fun _ => False) w19 w20 := by rw [e20]; exact (Ext.refl w19).drew
   have y20 := y19.then x20
   have z20 := x19.then x20
   refine (c_World_Wide (hB.ext z20 id) (h4.keep y20.keep) (hR.keep z20.keep) (h3.keep y20.keep) hO.few.1 (fun t ht => by have := hO.small t ht; omega) hO.few.2 (Nat.le_trans hB0 y20.size)).mono ?_
   rintro _ w22 ⟨cs, rfl, hW, x22⟩
   obtain ⟨ok3, ok4, few6, few7⟩ := wide_ok hO
   have hW' := hW
   obtain ⟨a1, l1, c1, a2, l2, c2, a6, l6, c6, a7, l7, c7, rfl, -⟩ := hW'
   have y22 := y20.then x22
   refine ⟨a1, l1, c1, a2, l2, c2, _, _, _, a6, l6, c6, a7, l7, c7, rfl, ⟨x22.keepT _, x22.keepT _, trivial⟩, ⟨rfl, trivial⟩, ?_⟩
   refine (c_impl_RKnownRootType hW ok3 ok4 few6 few7 (h6.keep y22.keep) (h7.keep y22.keep) ok1 ok2 (rule types dirs defs ops frags hO n1 n2 ok1 ok2 hsp) (Nat.le_trans hB0 y22.size)).mono ?_
   rintro _ w31 ⟨n, rfl, ⟨hn0, hn⟩, x31⟩
   have y31 := y22.then x31
   refine ⟨n, true, rfl, ⟨x31.keepT _, x31.keepT _, trivial⟩, trivial, trivial, trivial, ?_⟩
   have z31 := (z20.then x22).then x31
   refine (spec (hB.ext z31 id) (h4.keep y31.keep) (hR.keep z31.keep) hO (h6.keep y31.keep) (h7.keep y31.keep) ok1 ok2 hsp n1 n2).mono ?_
   rintro _ w35 ⟨b36, rfl, x35, hb36⟩
   have y35 := y31.then x35
   refine ⟨b36, rfl, ⟨x35.keepT _, x35.keepT _, trivial⟩, ?_⟩
   refine (c_laws_told n true b36 w35).mono ?_
   rintro _ w38 ⟨rfl, rfl⟩
   refine ⟨_, rfl, ⟨(Ext.refl _).keepT _, (Ext.refl _).keepT _, trivial⟩, ?_, y35⟩
   rw [told_true hn0 (hn.trans hb36.symm)]
  refine ⟨fun hb => ?_, fun hb => key17 true w14 (Ext.refl w14) nofun⟩
  refine (c_Small (h6.keep y14.keep) (h7.keep y14.keep)).mono ?_
  rintro _ w41 ⟨b42, rfl, x41, hsm⟩
  refine ⟨b42, rfl, ⟨x41.keepT _, x41.keepT _, trivial⟩, key17 _ w41 x41 fun h => ⟨by simpa using hb, hsm (by simpa using h)⟩⟩
 refine (c_laws_zzFits20 d1 d1l d1c d2 d2l d2c d3 d3l d3c d4 d4l d4c d5 d5l d5c _).mono ?_
 rintro _ w44 ⟨b45, rfl, x44, -⟩
 have y44 := x9.then x44
 refine ⟨b45, rfl, ⟨x44.keepT _, x44.keepT _, trivial⟩, fun _ => ?_, fun _ => key10 true w44 y44⟩
 refine (c_laws_zzFits21 q6 q6l q6c q7 q7l q7c _).mono ?_
 rintro _ w47 ⟨b48, rfl, x47, -⟩
 exact ⟨b48, rfl, ⟨x47.keepT _, x47.keepT _, trivial⟩, key10 _ w47 (y44.then x47)⟩
theorem c_FnRuleRoots {d1 : OA} {d1l d1c : Nat} {d2 : OA} {d2l d2c : Nat} {d3 : OA} {d3l d3c : Nat} {d4 : OA} {d4l d4c : Nat} {d5 : OA} {d5l d5c : Nat} {q6 : OA} {q6l q6c : Nat} {q7 : OA} {q7l q7c : Nat} {defs exts : List SchemaDef} {dirs : List DirDef} {types texts : List Def} {ops : List OpD} {frags : List Frag} {w : World}
  (h1 : RSchemaDefs w d1 d1l d1c defs) (h2 : RSchemaDefs w d2 d2l d2c exts) (h3 : RDirDefs w d3 d3l d3c dirs) (h4 : RDefs w d4 d4l d4c types) (h5 : RDefs w d5 d5l d5c texts) (hs : d1l + d2l <= 4194304) (hsp : selTot ops frags <= 2097152) (h6 : ROps w q6 q6l q6c ops) (h7 : RFrags w q7 q7l q7c frags) (hB0 : DB.B <= w.heap.size) :
  CP 3 #[.agg #[.slice d1 d1l d1c, .slice d2 d2l d2c, .slice d3 d3l d3c, .slice d4 d4l d4c, .slice d5 d5l d5c], .agg #[.slice q6 q6l q6c, .slice q7 q7l q7c]] w fun e w' => e = .returned (.bool true) /\ Ext (fun _ => False) w w' :=
 c_law_FnRuleRoots (S := fun _ roots ops _ => ∃ x ∈ ops, rootD roots x.kind = E0) (fun types dirs defs ops frags hO h h2 ok1 _ hs => rootsRule types dirs defs ops frags hO h h2 ok1 hs) (fun hB h4 hR hO h h2 ok1 ok2 hs n1 n2 => c_World_NoRoot hB hR h) h1 h2 h3 h4 h5 hs hsp h6 h7 hB0
end Go.VC
