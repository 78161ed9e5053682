/- Part of the proof of a law of a rule over documents (OpsA), where what the arguments hold is of bulk at most 1048576. -/
import Derived.Test.YtgckkmmljfioaaaGreatBaseB
import Derived.Test.YtgckkmmljfioaaaGreatWalkD
import Derived.Test.YtgckkmmljfioaaaGreatLawA
set_option linter.unusedVariables false
set_option linter.unusedSimpArgs false
set_option linter.unusedSectionVars false
set_option linter.deprecated false
namespace Go.VC
open Go Go.Proofs
set_option maxRecDepth 100000
theorem q_rules_UniqueOperationNamesRule (a : OA) (b : Value) (w : World) (R : EW) (h :
 (b.oneCell' = true /\ True) /\ (let c := w.alloc (.cells #[b] 122);
 let d := c.alloc (.map #[] 0);
 True /\ (let e := d.alloc (.cells #[.map none] 165);
 Off e (adr d.heap.size) 1 [] /\ True /\ (let f := (e.setCell (adr d.heap.size) (.map (some c.heap.size)));
 CP 72 #[.pointer a, (.func (.func 76) #[] #[(.pointer (some (adr d.heap.size))), (.pointer (some (adr w.heap.size)))])] f (fun g i => g = .returned (.tuple #[]) /\ True /\ R (.returned (.tuple #[])) i))))) : CP 43 #[.pointer a, b] w R :=
 vcq Tryz.func43 [] [] [.l (.optr a), .l (.val b)] h
theorem q_rules_UniqueOperationNamesRule_1 (a : OA) (b : OA) (c : Addr) (d : Addr) (w : World) (R : EW) (h :
 ∀ e : World -> Prop, (∀ f : World,
 (∀ g, g = f.drew -> ∃ i : Option Nat, g.cell? c = some (.map i) /\ ∃ j, b = some j /\ ∃ k, g.cell? (j.add 2) = some (.string k) /\ ∃ l, (Instr.mapUpdate 165 (.map i) (.string k) (.bool true)).run Tryz.prog g = .ok () l /\ True /\ True /\ R (.returned (.tuple #[])) l) ->
 e f) ->
 ∀ m, m = w.drew -> ∃ n : Option Nat, m.cell? c = some (.map n) /\ ∃ o, b = some o /\ ∃ p, m.cell? (o.add 2) = some (.string p) /\ ∃ q, (Instr.lookup 165 (.map n) (.string p) false).run Tryz.prog m = .ok (.bool q) m /\ ((q = true ->
 ∀ r, r = m.drew -> ∃ s : Value, r.cell? d = some s /\ ∃ t, b = some t /\ ∃ u, r.cell? (t.add 2) = some (.string u) /\ ∃ v, b = some v /\ ∃ x, r.cell? (v.add 6) = some (.pointer x) /\ True /\ (let y := r.alloc (.cells #[(ifcV (some (9, (.string u))))] 20);
 ((y.cell? (v.add 6) = r.cell? (v.add 6)) /\ (y.cell? d = r.cell? d) /\ True) /\ CP 65 #[(.string (⟨#[84,104,101,114,101,32,99,97,110,32,98,101,32,111,110,108,121,32,111,110,101,32,111,112,101,114,97,116,105,111,110,32,110,97,109,101,100,32,34,37,115,34,46]⟩ : BA)), (.slice (some (adr r.heap.size)) 1 1)] y (fun z A => ∃ B : Value, z = .returned B /\ True /\ ((A.cell? (v.add 6) = y.cell? (v.add 6)) /\ (A.cell? d = y.cell? d) /\ True) /\ CP 66 #[.pointer x] A (fun C D => ∃ E : Value, C = .returned E /\ True /\ ((D.cell? d = A.cell? d) /\ True) /\ (B.oneCell' = true /\ E.oneCell' = true /\ True) /\ (let F := D.alloc (.cells #[B, E] 135);
 ((F.cell? d = D.cell? d) /\ True) /\ ∃ G H, s = .func (.func G) #[] H.toArray /\ ∃ I, Tryz.prog.funcs[G]? = some I /\ (I.name == "runtime.NumGoroutine" || I.body.isNone) = false /\ CP G ([(.slice (some (adr D.heap.size)) 2 2)] ++ H).toArray F (fun J K => J = .returned (.tuple #[]) /\ True /\ True /\ e K)))))) /\
 (q = false ->
 e m))) : CP 76 #[.pointer a, .pointer b, (.pointer (some c)), (.pointer (some d))] w R :=
 vcq Tryz.func76 [] [(0, ⟨[],[]⟩)] [.l (.optr a), .l (.optr b), .l (.ptr c), .l (.ptr d)] h
theorem q_impl_RUniqueOperationNames (a : OA) (b c : Nat) (d : OA) (e f : Nat) (g : BA) (i : BA) (j : BA) (k : OA) (l m : Nat) (n : OA) (o p : Nat) (q : OA) (r s : Nat) (t : OA) (u v : Nat) (w : World) (R : EW) (h :
 True /\ (let x := w.alloc (.cells #[.slice a b c, .slice d e f, .string g, .string i, .string j, .slice k l m, .slice n o p] 40);
 True /\ (let y := x.alloc (.cells #[.slice q r s, .slice t u v] 30);
 CP 31 #[(.agg #[.slice a b c, .slice d e f, .string g, .string i, .string j, .slice k l m, .slice n o p]), (.agg #[.slice q r s, .slice t u v]), (.func (.func 43) #[] #[])] y (fun z A => ∃ B, ∃ C, z = .returned (.tuple #[.int .i64 B, .bool C]) /\ (KeepT 40 y A /\ KeepT 30 y A /\ True) /\ R (.returned (.tuple #[.int .i64 B, .bool C])) A)))) : CP 21 #[(.agg #[.slice a b c, .slice d e f, .string g, .string i, .string j, .slice k l m, .slice n o p]), (.agg #[.slice q r s, .slice t u v])] w R :=
 vcq Tryz.func21 [2, 3] [] [.agg [.slice a b c, .slice d e f, .str g, .str i, .str j, .slice k l m, .slice n o p], .agg [.slice q r s, .slice t u v]] h
theorem q_OpsTwice (a : OA) (b c : Nat) (d : OA) (e f : Nat) (w : World) (R : EW) (h :
 True /\ (let g := w.alloc (.cells #[.slice a b c, .slice d e f] 30);
 ∃ (i : OA -> Nat -> Nat -> Int -> World -> Prop) (j : OA -> Nat -> Nat -> Int -> World -> Nat), i none 0 0 0 g /\
 (∀ (k : OA) (l m : Nat), ∀ n : Int, ∀ o : World, i k l m n o ->
 (((decide (n < (b : Int))) = true ->
 ∃ p, a = some p /\ (0 <= n /\ n < (b : Int)) /\ ∃ q, o.cell? (p.add (n.toNat * 5)) = some (.string q) /\ ∃ r, o.cell? ((p.add (n.toNat * 5)).add 1) = some (.string r) /\ ∃ s t u, o.cell? ((p.add (n.toNat * 5)).add 2) = some (.slice s t u) /\ ∃ v x y, o.cell? ((p.add (n.toNat * 5)).add 3) = some (.slice v x y) /\ ∃ z A B, o.cell? ((p.add (n.toNat * 5)).add 4) = some (.slice z A B) /\ True /\ (let C := o.alloc (.cells #[(.string (⟨#[]⟩ : BA)), (.string (⟨#[]⟩ : BA)), .slice none 0 0, .slice none 0 0, .slice none 0 0] 51);
 True /\ (let D := o.alloc (.cells #[.string q, .string r, .slice s t u, .slice v x y, .slice z A B] 51);
 True /\ (let E := D.alloc (.cells #[.string r] 9);
 ∃ F G H, ∃ I, (Go.builtin .append #[71, 71] 71 #[false, false] #[.slice k l m, (.slice (some (adr D.heap.size)) 1 1)]).run Tryz.prog E = .ok (.value (.slice F G H)) I /\ (KeepT 30 E I /\ KeepT 51 E I /\ True) /\ (i F G H (IntKind.i64.wrap (n + 1)) I /\ j F G H (IntKind.i64.wrap (n + 1)) I < j k l m n o))))) /\
 ((decide (n < (b : Int))) = false ->
 CP 42 #[.slice k l m] o (fun J K => ∃ L, J = .returned (.bool L) /\ (KeepT 30 o K /\ True) /\ R (.returned (.bool L)) K)))))) : CP 22 #[(.agg #[.slice a b c, .slice d e f])] w R :=
 vcq Tryz.func22 [1, 5] [(8, ⟨[(3, .slice), (9, .int .i64)],[]⟩)] [.agg [.slice a b c, .slice d e f]] h
theorem q_Nameless (a : OA) (b c : Nat) (d : OA) (e f : Nat) (w : World) (R : EW) (h :
 True /\ (let g := w.alloc (.cells #[.slice a b c, .slice d e f] 30);
 ∃ (i : Int -> Int -> World -> Prop) (j : Int -> Int -> World -> Nat), i 0 0 g /\
 (∀ k : Int, ∀ l : Int, ∀ m : World, i k l m ->
 (((decide (l < (b : Int))) = true ->
 ∀ n : Int -> World -> Prop, (∀ o : Int, ∀ p : World,
 ((i o (IntKind.i64.wrap (l + 1)) p /\ j o (IntKind.i64.wrap (l + 1)) p < j k l m)) ->
 n o p) ->
 ∃ q, a = some q /\ (0 <= l /\ l < (b : Int)) /\ ∃ r, m.cell? (q.add (l.toNat * 5)) = some (.string r) /\ ∃ s, m.cell? ((q.add (l.toNat * 5)).add 1) = some (.string s) /\ ∃ t u v, m.cell? ((q.add (l.toNat * 5)).add 2) = some (.slice t u v) /\ ∃ x y z, m.cell? ((q.add (l.toNat * 5)).add 3) = some (.slice x y z) /\ ∃ A B C, m.cell? ((q.add (l.toNat * 5)).add 4) = some (.slice A B C) /\ True /\ (let D := m.alloc (.cells #[(.string (⟨#[]⟩ : BA)), (.string (⟨#[]⟩ : BA)), .slice none 0 0, .slice none 0 0, .slice none 0 0] 51);
 True /\ (let E := m.alloc (.cells #[.string r, .string s, .slice t u v, .slice x y z, .slice A B C] 51);
 (((s.toList == (⟨#[]⟩ : BA).toList) = true ->
 n (IntKind.i64.wrap (k + 1)) E) /\
 ((s.toList == (⟨#[]⟩ : BA).toList) = false ->
 n k E))))) /\
 ((decide (l < (b : Int))) = false ->
 R (.returned (.int .i64 k)) m))))) : CP 20 #[(.agg #[.slice a b c, .slice d e f])] w R :=
 vcq Tryz.func20 [1, 5] [(8, ⟨[(3, .int .i64), (9, .int .i64)],[]⟩), (15, ⟨[(3, .int .i64)],[]⟩)] [.agg [.slice a b c, .slice d e f]] h
theorem q_laws_FnRuleOps (a : OA) (b c : Nat) (d : OA) (e f : Nat) (g : OA) (i j : Nat) (k : OA) (l m : Nat) (n : OA) (o p : Nat) (q : OA) (r s : Nat) (t : OA) (u v : Nat) (w : World) (R : EW) (h :
 True /\ (let x := w.alloc (.cells #[.slice a b c, .slice d e f, .slice g i j, .slice k l m, .slice n o p] 26);
 True /\ (let y := x.alloc (.cells #[.slice q r s, .slice t u v] 30);
 ∀ z : Bool -> World -> Prop, (∀ A : Bool, ∀ B : World,
 (((A = true ->
 R (.returned (.bool true)) B) /\
 (A = false ->
 CP 10 #[(.agg #[.slice a b c, .slice d e f, .slice g i j, .slice k l m, .slice n o p])] B (fun C D => ∃ E, ∃ F, C = .returned (.tuple #[.pointer E, .bool F]) /\ (KeepT 26 B D /\ KeepT 30 B D /\ True) /\ ∀ G : Bool -> World -> Prop, (∀ H : Bool, ∀ I : World,
 (((H = true ->
 R (.returned (.bool true)) I) /\
 (H = false ->
 ∀ J, J = I.drew -> CP 13 #[.pointer E] J (fun K L => ∃ M N O, ∃ P Q S, ∃ U, ∃ V, ∃ W, ∃ X Y Z, ∃ aa ab ac, K = .returned (.agg #[.slice M N O, .slice P Q S, .string U, .string V, .string W, .slice X Y Z, .slice aa ab ac]) /\ (KeepT 26 J L /\ KeepT 30 J L /\ True) /\ ((0 = 0) /\ True) /\ CP 21 #[(.agg #[.slice M N O, .slice P Q S, .string U, .string V, .string W, .slice X Y Z, .slice aa ab ac]), (.agg #[.slice q r s, .slice t u v])] L (fun ad ae => ∃ af, ∃ ag, ad = .returned (.tuple #[.int .i64 af, .bool ag]) /\ (KeepT 26 L ae /\ KeepT 30 L ae /\ True) /\ True /\ True /\ True /\ CP 22 #[(.agg #[.slice q r s, .slice t u v])] ae (fun ah ai => ∃ aj, ah = .returned (.bool aj) /\ (KeepT 26 ae ai /\ KeepT 30 ae ai /\ True) /\ CP 14 #[.int .i64 af, .bool ag, .bool aj] ai (fun ak al => ∃ am, ak = .returned (.bool am) /\ (KeepT 26 ai al /\ KeepT 30 ai al /\ True) /\ R (.returned (.bool am)) al))))))) ->
 G H I) ->
 (((!F) = false -> CP 11 #[(.agg #[.slice q r s, .slice t u v])] D (fun an ao => ∃ ap, an = .returned (.bool ap) /\ (KeepT 26 D ao /\ KeepT 30 D ao /\ True) /\ (((!ap) = false -> CP 20 #[(.agg #[.slice q r s, .slice t u v])] ao (fun aq ar => ∃ au, aq = .returned (.int .i64 au) /\ (KeepT 26 ao ar /\ KeepT 30 ao ar /\ True) /\ G (decide (au > 1)) ar)) /\ ((!ap) = true -> G true ao)))) /\ ((!F) = true -> G true D)))))) ->
 z A B) ->
 CP 8 #[(.agg #[.slice a b c, .slice d e f, .slice g i j, .slice k l m, .slice n o p])] y (fun av ax => ∃ ay, av = .returned (.bool ay) /\ (KeepT 26 y ax /\ KeepT 30 y ax /\ True) /\ (((!ay) = false -> CP 9 #[(.agg #[.slice q r s, .slice t u v])] ax (fun az aA => ∃ aB, az = .returned (.bool aB) /\ (KeepT 26 ax aA /\ KeepT 30 ax aA /\ True) /\ z (!aB) aA)) /\ ((!ay) = true -> z true ax)))))) : CP 6 #[(.agg #[.slice a b c, .slice d e f, .slice g i j, .slice k l m, .slice n o p]), (.agg #[.slice q r s, .slice t u v])] w R :=
 vcq Tryz.func6 [2, 3] [(3, ⟨[(16, .bool)],[]⟩), (13, ⟨[(33, .bool)],[]⟩)] [.agg [.slice a b c, .slice d e f, .slice g i j, .slice k l m, .slice n o p], .agg [.slice q r s, .slice t u v]] h
end Go.VC
namespace Go.VC
open Go Go.Proofs
set_option maxRecDepth 100000
theorem q_core_Events_OnOperation (a : OA) (b : Value) (w : World) (R : EW) (h :
 ∃ c, a = some c /\ ∃ d e f, w.cell? c = some (.slice d e f) /\ (b.oneCell' = true /\ True) /\ (let g := w.alloc (.cells #[b] 169);
 ∃ i j k, ∃ l, (Go.builtin .append #[108, 108] 108 #[false, false] #[.slice d e f, (.slice (some (adr w.heap.size)) 1 1)]).run Tryz.prog g = .ok (.value (.slice i j k)) l /\ True /\ ∃ m, a = some m /\ Off l m 1 [] /\ True /\ (let n := (l.setCell m (.slice i j k));
 R (.returned (.tuple #[])) n))) : CP 72 #[.pointer a, b] w R :=
 vcq Tryz.func72 [] [] [.l (.optr a), .l (.val b)] h
end Go.VC
namespace Go.VC
open Go Go.Proofs
variable [DB]
theorem c_core_Events_OnOperation {eb : Nat} {f : Value} {cs : List Value} {w : World} (hf : smallV f) (hB : Blk w eb 118 (.slice none 0 0 :: cs)) :
  CP 72 #[.pointer (some (adr eb)), f] w fun e w' => e = .returned (.tuple #[]) /\ ∃ (p : Addr) (C : Nat), Blk w' eb 118 (.slice (some p) 1 C :: cs) /\ At w' 169 p f /\ w.heap.size <= p.block /\ Ext (fun b => b = eb) w w' := by
 obtain ⟨p, C, w7, r7, ha, hp, hx, -⟩ := on_append 108 169 Tryz.t169 _ _ (by kernel_rfl) (by kernel_rfl) rfl (by kernel_rfl) rfl (by kernel_rfl) (by decide) (w := w) hf 108 #[false, false]
 have hB7 := hB.ext hx id
 have hlt := hB.lt
 have hs : Ext (fun b => b = eb) w7 (w7.setCell ⟨eb, 0, none⟩ (.slice (some p) 1 C)) := Ext.setCell (X := fun b => b = eb) (Ext.refl _) (a := ⟨eb, 0, none⟩) (.inl rfl) _
 refine q_core_Events_OnOperation (some (adr eb)) f w _ ⟨adr eb, rfl, none, 0, 0, (hB.at (j := 0) rfl).cell, ⟨hf.one, trivial⟩, some p, 1, C, w7, r7, trivial, adr eb, rfl, hB7.off (j := 0) (n := 1) (q := fun _ => false) (by simp) rfl, trivial, rfl, p, C, hB7.set 0 _, hs.at (by show ¬ p.block = eb; omega) ha, hp, (hx.toM _).trans hs fun _ _ e => e⟩
end Go.VC
namespace Go.VC
open Go Go.Proofs
set_option maxRecDepth 100000
theorem q_twice (a : OA) (b c : Nat) (w : World) (R : EW) (h :
 ∃ (d : Int -> World -> Prop) (e : Int -> World -> Nat), d 0 w /\
 (∀ f : Int, ∀ g : World, d f g ->
 (((decide (f < (b : Int))) = true ->
 ∃ i, a = some i /\ (0 <= f /\ f < (b : Int)) /\ ∃ j, g.cell? (i.add (f.toNat * 1)) = some (.string j) /\ ∀ k : Bool -> World -> Prop, (∀ l : Bool, ∀ m : World,
 (((l = true ->
 R (.returned (.bool true)) m) /\
 (l = false ->
 (d (IntKind.i64.wrap (f + 1)) m /\ e (IntKind.i64.wrap (f + 1)) m < e f g)))) ->
 k l m) ->
 (((!(j.toList == (⟨#[]⟩ : BA).toList)) = true -> (0 <= (0 : Int) /\ (0 : Int) <= f /\ f <= (c : Int)) /\ CP 48 #[.string j, (.slice (if c = (0 : Int).toNat then a else Option.map (·.add ((0 : Int).toNat * 1)) a) (f.toNat - (0 : Int).toNat) (c - (0 : Int).toNat))] g (fun n o => ∃ p, n = .returned (.bool p) /\ True /\ k p o)) /\ ((!(j.toList == (⟨#[]⟩ : BA).toList)) = false -> k false g))) /\
 ((decide (f < (b : Int))) = false ->
 R (.returned (.bool false)) g)))) : CP 42 #[.slice a b c] w R :=
 vcq Tryz.func42 [] [(6, ⟨[(7, .int .i64)],[]⟩), (17, ⟨[(20, .bool)],[]⟩)] [.l (.slice a b c)] h
end Go.VC
namespace Go.VC
open Go Go.Proofs
variable [DB]
def nz (l : List BA) : List BA := l.filter fun s => !decide (s = E0)
theorem nz_snoc_e (l : List BA) : nz (l ++ [E0]) = nz l := by
 have : ([E0].filter fun s => !decide (s = E0)) = [] := by simp
 rw [nz, List.filter_append, this, List.append_nil]; rfl
theorem nz_snoc {l : List BA} {x : BA} (h : x ≠ E0) : nz (l ++ [x]) = nz l ++ [x] := by
 have : ([x].filter fun s => !decide (s = E0)) = [x] := by simp [h]
 rw [nz, List.filter_append, this]; rfl
theorem mem_nz {l : List BA} {x : BA} : x ∈ nz l ↔ x ∈ l /\ x ≠ E0 := by simp [nz, List.mem_filter]
theorem nz_all {l : List BA} (h : ∀ x ∈ l, x ≠ E0) : nz l = l := List.filter_eq_self.2 fun x hx => by simp [h x hx]
theorem nz_take {l : List BA} {k : Nat} (h : (nz l).Nodup) : (nz (l.take k)).Nodup := h.sublist ((List.take_sublist k l).filter _)
theorem take_snoc {α : Type} {xs : List α} {i : Int} {x : α} (h0 : 0 <= i) (hx : xs[i.toNat]? = some x) : xs.take (i + 1).toNat = xs.take i.toNat ++ [x] := by
 rw [show (i + 1).toNat = i.toNat + 1 by omega, List.take_add_one, hx]; rfl
theorem SlL.take {α : Type} {w : World} {T n : Nat} {R : α -> List Value -> Prop} {a : OA} {l c : Nat} {xs : List α} (h : SlL w T n R a l c xs) {i : Nat} (hi : i <= l) : SlL w T n R a i c (xs.take i) := by
 obtain ⟨h1, h2, h3, h4⟩ := h
 refine ⟨?_, by omega, by omega, fun j x hx => h4 j x ?_⟩
 ·rw [List.length_take]; omega
 ·rw [List.getElem?_take] at hx
  split at hx
  ·exact hx
  ·cases hx
theorem slice_same (a : OA) (c : Nat) : (if c = (0 : Int).toNat then a else Option.map (·.add ((0 : Int).toNat * 1)) a) = a := by
 split
 ·rfl
 ·cases a with
  | none => rfl
  | some a => rfl
theorem c_twice {a : OA} {l c : Nat} {xs : List BA} {w : World} (hl : RStrs w a l c xs) :
  CP 42 #[.slice a l c] w (RetB w fun b => b = true ↔ ¬ (nz xs).Nodup) := by
 obtain ⟨e1, e3⟩ := hl.len
 have hlc : l <= c := hl.2.1
 refine q_twice a l c w _ ⟨fun i w1 => 0 <= i /\ i <= l /\ Ext (fun _ => False) w w1 /\ (nz (xs.take i.toNat)).Nodup, fun i _ => ((l : Int) - i).toNat, ⟨by omega, by omega, Ext.refl w, by simp [nz]⟩, ?_⟩
 rintro i w1 ⟨h0, hi, hx, hn⟩
 refine ⟨fun hlt => ?_, fun hge => ?_⟩
 ·have hlt := of_decide_eq_true hlt
  obtain ⟨p, x, hp, hxs, cs, hc, rfl⟩ := hl.get h0 hlt
  refine ⟨p, hp, ⟨h0, hlt⟩, x, hx.cell hc.1.choose_spec.2 id, fun K hK => ?_⟩
  have key : ∀ (z : Bool) w', Ext (fun _ => False) w1 w' -> (z = true ↔ x ≠ E0 /\ x ∈ xs.take i.toNat) -> K z w' := by
   intro z w' hx' hz
   refine hK z w' ⟨fun h => ⟨true, rfl, hx.then hx', fun _ hnd => ?_, fun _ => rfl⟩, fun h => ?_⟩
   ·obtain ⟨hne, hm⟩ := hz.1 h
    have := nz_take (k := (i + 1).toNat) hnd
    rw [take_snoc h0 hxs, nz_snoc hne, nodup_snoc] at this
    exact this.2 (mem_nz.2 ⟨hm, hne⟩)
   ·rw [wrap_lt h0 (by omega)]
    refine next h0 hlt ⟨hx.then hx', ?_⟩
    rw [take_snoc h0 hxs]
    by_cases he : x = E0
    ·rw [he, nz_snoc_e]; exact hn
    ·rw [nz_snoc he, nodup_snoc]
     refine ⟨hn, fun hm => ?_⟩
     rw [hz.2 ⟨he, (mem_nz.1 hm).1⟩] at h
     cases h
  refine ⟨fun hne => ⟨⟨by omega, h0, by omega⟩, ?_⟩, fun he => key false w1 (Ext.refl w1) ⟨nofun, fun h => absurd (nbeq_f he) h.1⟩⟩
  rw [slice_same]
  have hne := nbeq_t hne
  have ht : RStrs w1 a (i.toNat - (0 : Int).toNat) (c - (0 : Int).toNat) (xs.take i.toNat) := SlL.take (T := 9) (n := 1) (R := fun s cs => cs = [.string s]) (hl.keep hx.keep) (i := i.toNat) (by omega)
  refine (c_in x ht).mono ?_
  rintro _ w' ⟨b, rfl, hx', hb⟩
  exact ⟨b, rfl, trivial, key b w' hx' (hb.trans ⟨fun h => ⟨hne, h⟩, fun h => h.2⟩)⟩
 ·have hle := of_decide_eq_false hge
  rw [List.take_of_length_le (by omega)] at hn
  exact ⟨false, rfl, hx, nofun, fun h => absurd hn h⟩
end Go.VC
namespace Go.VC
open Go Go.Proofs
variable [DB]
def evName : Ev -> BA
 | .op o => o.name
 | .frag f => f.name
 | .spread n _ => n
def StSeen (ae cnt mv mp : Nat) (l : List Ev) (w : World) : Prop :=
 Cnt ae cnt l.length (¬ (l.map evName).Nodup) w /\ Blk w mv 165 [.map (some mp)] /\ ∃ vs, VM w mp vs /\ ∀ k, k ∈ vs ↔ k ∈ l.map evName
abbrev SeenV (ae cnt mv mp : Nat) (b : Nat) : Prop := b = cnt ∨ b = ae ∨ b = mv ∨ b = mp
theorem StSeen.ext {ae cnt mv mp : Nat} {l : List Ev} {w w' : World} (h : StSeen ae cnt mv mp l w) {X : Nat -> Prop} (hx : Ext X w w') (hX : ∀ b, SeenV ae cnt mv mp b -> ¬ X b) : StSeen ae cnt mv mp l w' := by
 obtain ⟨h1, h2, vs, h3, h4⟩ := h
 exact ⟨h1.ext hx (hX _ (.inr (.inl rfl))) (hX _ (.inl rfl)), h2.ext hx (hX _ (.inr (.inr (.inl rfl)))), vs, h3.ext hx (hX _ (.inr (.inr (.inr rfl)))), h4⟩
theorem seen_start {w w3 w4 w5 w6 : World} {f : Value} (h3 : w3 = w.alloc (.cells #[f] 122)) (h4 : w4 = w3.alloc (.map #[] 0)) (h5 : w5 = w4.alloc (.cells #[.map none] 165)) (h6 : w6 = w5.setCell (adr w4.heap.size) (.map (some w3.heap.size))) :
  Off w5 (adr w4.heap.size) 1 [] /\ Ext (fun _ => False) w w6 /\ Blk w6 w.heap.size 122 [f] /\ Blk w6 w4.heap.size 165 [.map (some w3.heap.size)] /\ VM w6 w3.heap.size [] /\ w.heap.size < w3.heap.size /\ w3.heap.size < w4.heap.size /\ w4.heap.size < w6.heap.size := by
 subst h3
 have B3 := Blk.made w 122 [f]
 have x3 : Ext (fun _ => False) w (w.alloc (.cells #[f] 122)) := (Ext.refl w).alloc _
 replace B3 : Blk (w.alloc (.cells #[f] 122)) w.heap.size 122 [f] := B3
 generalize w.alloc (.cells #[f] 122) = w3 at *
 subst h4
 have S4 := SMap.made w3
 have x4 : Ext (fun _ => False) w3 (w3.alloc (.map #[] 0)) := (Ext.refl w3).alloc _
 generalize w3.alloc (.map #[] 0) = w4 at *
 subst h5
 have B5 : Blk (w4.alloc (.cells #[.map none] 165)) w4.heap.size 165 [.map none] := Blk.made w4 165 [.map none]
 have x5 : Ext (fun _ => False) w4 (w4.alloc (.cells #[.map none] 165)) := (Ext.refl w4).alloc _
 generalize w4.alloc (.cells #[.map none] 165) = w5 at *
 subst h6
 have B6 := B5.set 0 (.map (some w3.heap.size))
 have x6 : Ext (fun _ => False) w4 (w5.setCell (adr w4.heap.size) (.map (some w3.heap.size))) := Ext.setCell x5 (a := ⟨w4.heap.size, 0, none⟩) (.inr (Nat.le_refl _)) _
 have B6' : Blk (w5.setCell (adr w4.heap.size) (.map (some w3.heap.size))) w4.heap.size 165 [.map (some w3.heap.size)] := B6
 refine ⟨B5.off (j := 0) (n := 1) (q := inTs []) (by simp) rfl, (x3.then x4).then x6, (B3.ext x4 id).ext x6 id, B6', ⟨[], S4.ext x6 id, fun k => ⟨fun h => by simp at h, fun _ => rfl⟩⟩, B3.lt, S4.lt, B6'.lt⟩
theorem StSeen.step {ae cnt mv mp : Nat} {l : List Ev} {ev : Ev} {w w7 w11 : World} {vs : List BA} (c1 : Cnt ae cnt (l.length + 1) (¬ (l.map evName ++ [evName ev]).Nodup) w) (b1 : Blk w mv 165 [.map (some mp)]) (h4 : ∀ k, k ∈ vs ↔ k ∈ l.map evName) (x7 : Ext (fun _ => False) w w7) (v11 : VM w11 mp (evName ev :: vs)) (x11 : Ext (fun k => k = mp) w7 w11)
  (n1 : ae ≠ mp) (n2 : cnt ≠ mp) (n3 : mv ≠ mp) : StSeen ae cnt mv mp (l ++ [ev]) w11 := by
 refine ⟨?_, (b1.ext x7 id).ext x11 n3, _, v11, fun k => ?_⟩
 ·have := (c1.ext x7 id id).ext x11 n1 n2
  simpa using this
 ·simp only [List.map_append, List.map_cons, List.map_nil, List.mem_append, List.mem_cons, List.not_mem_nil, or_false, h4]
  exact Or.comm
end Go.VC
namespace Go.VC
open Go Go.Proofs
variable [DB]
theorem c_UOps_1 {c : WCtx} {ae cnt mv mp : Nat} {l : List Ev} {w : World} {co : OA} {vm : Nat} {evs : List Value} {node : Value} {ev : Ev} (hVM : ∀ b, SeenV ae cnt mv mp b -> ¬ c.M b) (hne : ae ≠ cnt /\ ae ≠ mv /\ ae ≠ mp /\ cnt ≠ mv /\ cnt ≠ mp /\ mv ≠ mp) (hc : StSeen ae cnt mv mp l w) (hw : Wst c co vm evs w) (hk : isOp ev = true) (hn : evNode c w node ev) :
  CP 76 #[.pointer (some (adr c.wb)), node, .pointer (some (adr mv)), .pointer (some (adr ae))] w fun e w' => e = .returned (.tuple #[]) /\ Ext (SeenV ae cnt mv mp) w w' /\ StSeen ae cnt mv mp (l ++ [ev]) w' := by
 cases ev with
 | frag f => cases hk
 | spread n f => cases hk
 | op o =>
  obtain ⟨b, rfl, hp, ho⟩ := hn
  obtain ⟨A1, L1, C1, A2, L2, C2, A3, L3, C3, pos, hM, hB, -⟩ := hp
  obtain ⟨c0, b0, vs, v0, h4⟩ := hc
  refine q_rules_UniqueOperationNamesRule_1 (some (adr c.wb)) (some (adr b)) (adr mv) (adr ae) w _ fun K5 hK5 => ?_
  have nm : ∀ w', Ext (SeenV ae cnt mv mp) w w' -> w'.cell? ⟨b, 2, none⟩ = some (.string o.name) := fun w' x => (hw.wk.trans (Wk.ofExt x fun b hb hV => hVM b hV hb)).nd hM hB (j := 2) rfl rfl
  have key : ∀ w', Ext (SeenV ae cnt mv mp) w w' -> Cnt ae cnt (l.length + 1) (¬ (l.map evName ++ [o.name]).Nodup) w' -> Blk w' mv 165 [.map (some mp)] -> VM w' mp vs -> K5 w' := by
   intro w' x' c' b' v'
   refine hK5 w' fun w7 e7 => ?_
   have x7 : Ext (fun _ => False) w' w7 := by rw [e7]; exact (Ext.refl w').drew
   obtain ⟨w11, r11, v11, x11⟩ := (v'.ext x7 id).put o.name
   have y7 : Ext (SeenV ae cnt mv mp) w w7 := x'.trans x7 fun _ _ e => e.elim
   exact ⟨some mp, ((b'.ext x7 id).at (j := 0) rfl).cell, adr b, rfl, o.name, nm w7 y7, w11, r11, trivial, trivial, rfl, y7.trans x11 fun _ _ e => .inr (.inr (.inr e)), StSeen.step (ev := .op o) c' b' h4 x7 v11 x11 hne.2.2.1 hne.2.2.2.2.1 hne.2.2.2.2.2⟩
  intro w12 e12
  have x12 : Ext (fun _ => False) w w12 := by rw [e12]; exact (Ext.refl w).drew
  obtain ⟨z, r, hz⟩ := (v0.ext x12 id).look o.name
  refine ⟨some mp, ((b0.ext x12 id).at (j := 0) rfl).cell, adr b, rfl, o.name, nm w12 (x12.toM _), z, r, fun hz1 => ?_, fun hz0 => key w12 (x12.toM _) (Cnt.skip (c0.ext x12 id id) (by omega) ?_) (b0.ext x12 id) (v0.ext x12 id)⟩
  ·intro w17 e17
   have x17 : Ext (fun _ => False) w w17 := by rw [e17]; exact x12.drew
   have a17 := (hw.wk.trans (Wk.ofExt x17 fun _ _ => id)).at (a := ⟨b, 6, none⟩) hM (hB.at (j := 6) rfl) rfl
   have c17 := c0.ext x17 id id
   refine ⟨_, (c17.1.at (j := 0) rfl).cell, adr b, rfl, o.name, nm w17 (x17.toM _), adr b, rfl, pos, a17.cell, trivial, ?_⟩
   refine tell c17 a17 hne.1 ((Ext.refl w17).alloc _) rfl fun w' x' c' => key w' ((x17.toM _).trans x' fun _ _ e => e.elim .inl fun e => .inr (.inl e)) (Cnt.skip c' (Nat.le_refl _) ?_) ((b0.ext x17 id).ext x' fun e => ?_) ((v0.ext x17 id).ext x' fun e => ?_)
   ·rw [nodup_snoc]
    exact ⟨fun _ h => h.2 ((h4 _).1 (hz.1 hz1)), fun _ => trivial⟩
   ·rcases e with e | e
    ·exact hne.2.2.2.1 e.symm
    ·exact hne.2.1 e.symm
   ·rcases e with e | e
    ·exact hne.2.2.2.2.1 e.symm
    ·exact hne.2.2.1 e.symm
  ·rw [nodup_snoc]
   have hnot : o.name ∉ l.map evName := fun hm => by
    rw [hz.2 ((h4 _).2 hm)] at hz0
    cases hz0
   exact ⟨fun h k => h k.1, fun h k => h ⟨k, hnot⟩⟩
theorem opsRule (ops : List OpD) (frags : List Frag) (h12 : ops.length <= 12) : RuleOK 43 ops frags fun n => 0 <= n /\ (n > 0 ↔ ¬ (ops.map OpD.name).Nodup) := by
 refine ⟨⟨_, Tryz.func43, by kernel_rfl⟩, ?_⟩
 intro c cnt hops hfrags hb hB hcnt hne hMc hMe
 subst hops
 subst hfrags
 refine q_rules_UniqueOperationNamesRule (some (adr c.eb)) _ c.w0 _ ⟨⟨rfl, trivial⟩, ?_⟩
 intro w3 w4
 refine ⟨trivial, ?_⟩
 intro w5
 obtain ⟨off, x6, Bae, Bmv, vm6, z1, z2, z3⟩ := seen_start (w3 := w3) (w4 := w4) (w5 := w5) rfl rfl rfl rfl
 refine ⟨off, trivial, ?_⟩
 intro w6
 have hlc := hcnt.lt
 have hle := hB.lt
 replace x6 : Ext (fun _ => False) c.w0 w6 := x6
 replace Bae : Blk w6 c.w0.heap.size 122 [.func (.func 61) #[] #[.pointer (some (adr cnt))]] := Bae
 replace Bmv : Blk w6 w4.heap.size 165 [.map (some w3.heap.size)] := Bmv
 replace vm6 : VM w6 w3.heap.size [] := vm6
 replace z3 : w4.heap.size < w6.heap.size := z3
 clear_value w6
 clear off
 clear_value w5
 clear_value w4
 clear_value w3
 have z0 : c.w0.heap.size < w3.heap.size := z1
 refine (c_core_Events_OnOperation (f := .func (.func 76) #[] #[.pointer (some (adr w4.heap.size)), .pointer (some (adr c.w0.heap.size))]) rfl (hB.ext x6 id)).mono ?_
 rintro _ w8 ⟨rfl, p, C, B8, ap, hpb, x8⟩
 have y8 : Ext (fun b => b = c.eb) c.w0 w8 := (x6.toM _).trans x8 fun _ _ e => e
 have hz8 := x8.size
 have hz6 := x6.size
 have Bae8 := Bae.ext x8 (by show ¬ c.w0.heap.size = c.eb; omega)
 have Bmv8 := Bmv.ext x8 (by show ¬ w4.heap.size = c.eb; omega)
 have vm8 := vm6.ext x8 (by show ¬ w3.heap.size = c.eb; omega)
 have Bc8 := hcnt.ext y8 hne
 refine ⟨rfl, trivial, rfl, y8, SeenV c.w0.heap.size cnt w4.heap.size w3.heap.size, StSeen c.w0.heap.size cnt w4.heap.size w3.heap.size, ⟨some p, 1, C, true, none, 0, 0, false, none, 0, 0, false⟩, ?_, fun b hb' => ?_, fun b hb' T cs fr ho => ?_, fun l w'' hl ht => ?_⟩
 ·have hVM : ∀ b, SeenV c.w0.heap.size cnt w4.heap.size w3.heap.size b -> ¬ c.M b := fun b hV hM => by
   have := hb.m b hM
   rcases hV with rfl | rfl | rfl | rfl
   ·exact hMc hM
   all_goals omega
  refine rule_one hb hMe y8 (fun b hb' => ?_) hlc hne hMc hle (fun l w w'' h hx => h.ext hx fun b hb k => k hb) ⟨Cnt.zero Bae8 Bc8 (by simp), Bmv8, [], vm8, by simp⟩ B8 fun b5 wb fm fl => ⟨vis_one (cap := [.pointer (some (adr w4.heap.size)), .pointer (some (adr c.w0.heap.size))]) ap (fun h => ?_) (fun h => ?_) Tryz.func76 (by kernel_rfl) fun l w1 co vm evs node ev hl hw hk hn => c_UOps_1 hVM ⟨by omega, by omega, by omega, by omega, by omega, by omega⟩ hl hw hk hn, .inl ⟨rfl, rfl⟩, .inl ⟨rfl, rfl⟩⟩
  ·rcases hb' with rfl | rfl | rfl | rfl
   ·exact .inl rfl
   all_goals exact .inr (by omega)
  ·have : p.block < c.w0.heap.size := hb.m _ h
   omega
  ·have : SeenV c.w0.heap.size cnt w4.heap.size w3.heap.size p.block := h
   rcases this with h | h | h | h <;> omega
 ·rcases hb' with rfl | rfl | rfl | rfl
  ·exact .inr (Nat.le_refl _)
  all_goals exact .inr (by omega)
 ·rcases hb' with rfl | rfl | rfl | rfl
  ·rw [Bc8.type ho]; decide
  ·rw [Bae8.type ho]; decide
  ·rw [Bmv8.type ho]; decide
  ·obtain ⟨m, ⟨ents, cl, h1, -⟩, -⟩ := vm8
   rw [h1] at ho
   cases ho
 ·obtain ⟨⟨-, n, hn, hk⟩, -⟩ := hl
  have hl : l = c.ops.map Ev.op := by
   rw [ht.exact rfl]
   have h1 : ∀ xs : List OpD, (xs.flatMap fun x => em true (.op x)) = xs.map Ev.op := fun xs => by
    induction xs with
    | nil => rfl
    | cons x xs ih => rw [List.flatMap_cons, ih]; rfl
   have h2 : ∀ xs : List Frag, (xs.flatMap fun x => em false (.frag x)) = [] := fun xs => by simp [em]
   rw [h1, h2, List.append_nil]
  have hm : l.map evName = c.ops.map OpD.name := by
   rw [hl, List.map_map]
   rfl
  obtain ⟨k1, k2, k3⟩ := hk (by rw [hl, List.length_map]; omega)
  exact ⟨n, hn, k1, by rw [<- hm]; exact k3⟩
end Go.VC
namespace Go.VC
open Go Go.Proofs
variable [DB]
theorem c_OpsTwice {a : OA} {l c : Nat} {a' : OA} {l' c' : Nat} {ops : List OpD} {frags : List Frag} {w : World} (hl : ROps w a l c ops) (hl' : RFrags w a' l' c' frags) :
  CP 22 #[.agg #[.slice a l c, .slice a' l' c']] w (RetB w fun b => b = true ↔ ¬ (nz (ops.map OpD.name)).Nodup) := by
 obtain ⟨e1, e3⟩ := hl.len
 have hx0 := (Ext.refl (X := fun _ => False) w).alloc (.cells #[.slice a l c, .slice a' l' c'] 30)
 refine q_OpsTwice a l c a' l' c' w _ ⟨trivial, ?_⟩
 refine ⟨fun A L C i w1 => 0 <= i /\ i <= l /\ Ext (fun _ => False) w w1 /\ L = i.toNat /\ ∃ cells, Own w.heap.size w1 9 1 A L C cells /\ Flat 1 RS ((ops.take i.toNat).map OpD.name) cells, fun _ _ _ i _ => ((l : Int) - i).toNat, ⟨by omega, by omega, hx0, rfl, [], Own.nil .., .nil⟩, ?_⟩
 rintro A L C i w1 ⟨h0, hi, hx, hL, cells, hown, hf⟩
 refine ⟨fun hlt => ?_, fun hge => ?_⟩
 ·have hlt := of_decide_eq_true hlt
  obtain ⟨p, x, hp, hxs, cs, hc, a1, l1, c1, a2, l2, c2, a3, l3, c3, rfl, hv1, hv2, hv3⟩ := hl.get h0 hlt
  obtain ⟨⟨_, _, hc0⟩, hs0, ⟨_, _, hc1⟩, hs1, ⟨_, _, hc2⟩, hs2, ⟨_, _, hc3⟩, hs3, ⟨_, _, hc4⟩, -⟩ := hc
  refine ⟨p, hp, ⟨h0, hlt⟩, _, hx.cell hc0 id, _, hx.cell hc1 id, _, _, _, hx.cell hc2 id, _, _, _, hx.cell hc3 id, _, _, _, hx.cell hc4 id, trivial, trivial, trivial, ?_⟩
  have hx15 : Ext (fun _ => False) w1 (w1.alloc (.cells #[.string x.kind, .string x.name, .slice a1 l1 c1, .slice a2 l2 c2, .slice a3 l3 c3] 51)) := (Ext.refl w1).alloc _
  obtain ⟨A2, C2, w20, r1, ⟨cells2, o2, f2⟩, x2, k2⟩ := append_str (hown.keep hx15 fun _ _ => id) (Nat.le_trans hx.size hx15.size) hf (s := x.name) hs1 (by omega)
  have hx20 : Ext (fun _ => False) w w20 := (hx.then hx15).trans x2 fun b hb hbl => by
   have := ((hown.keep hx15 fun _ _ => id).base b hbl).1
   omega
  refine ⟨A2, L + 1, C2, w20, r1, ⟨k2 30 (by decide), k2 51 (by decide), trivial⟩, ?_⟩
  rw [wrap_lt h0 (by omega)]
  refine next h0 hlt ⟨hx20, by omega, cells2, o2, ?_⟩
  rw [take_snoc h0 hxs]
  simpa using f2
 ·have hle := of_decide_eq_false hge
  rw [List.take_of_length_le (by omega)] at hf
  have hall : RStrs w1 A L C _ := hown.sl hf (by omega) (by omega)
  refine (c_twice hall).mono ?_
  rintro _ w' ⟨b, rfl, hx', hb⟩
  exact ⟨b, rfl, ⟨hx'.keepT _, trivial⟩, b, rfl, hx.then hx', hb⟩
def nlN (ops : List OpD) : Nat := (ops.filter fun x => decide (x.name = E0)).length
theorem nlN_snoc (l : List OpD) (x : OpD) : nlN (l ++ [x]) = nlN l + if x.name = E0 then 1 else 0 := by
 unfold nlN
 rw [List.filter_append, List.length_append]
 by_cases h : x.name = E0 <;> simp [h]
theorem nz_nodup : ∀ {ops : List OpD}, nlN ops <= 1 -> ((nz (ops.map OpD.name)).Nodup ↔ (ops.map OpD.name).Nodup)
 | [], _ => by simp [nz]
 | x :: l, h => by
  by_cases hx : x.name = E0
  ·have h0 : nlN l = 0 := by
    have : nlN (x :: l) = nlN l + 1 := by simp [nlN, hx]
    omega
   have hno : ∀ s ∈ l.map OpD.name, s ≠ E0 := fun s hs he => by
    obtain ⟨y, hy, rfl⟩ := List.mem_map.1 hs
    have : y ∈ l.filter fun x => decide (x.name = E0) := List.mem_filter.2 ⟨hy, by simp [he]⟩
    rw [List.eq_nil_of_length_eq_zero h0] at this
    cases this
   have e1 : nz ((x :: l).map OpD.name) = nz (l.map OpD.name) := by simp [nz, hx]
   rw [e1, nz_all hno, List.map_cons, List.nodup_cons, hx]
   exact ⟨fun h => ⟨fun hm => hno _ hm rfl, h⟩, fun h => h.2⟩
  ·have h0 : nlN l <= 1 := by
    have : nlN (x :: l) = nlN l := by simp [nlN, hx]
    omega
   have e1 : nz ((x :: l).map OpD.name) = x.name :: nz (l.map OpD.name) := by simp [nz, hx]
   rw [e1, List.map_cons, List.nodup_cons, List.nodup_cons, nz_nodup h0, mem_nz]
   exact ⟨fun h => ⟨fun hm => h.1 ⟨hm, hx⟩, h.2⟩, fun h => ⟨fun hm => h.1 hm.1, h.2⟩⟩
theorem c_Nameless {a : OA} {l c : Nat} {a' : OA} {l' c' : Nat} {ops : List OpD} {frags : List Frag} {w : World} (hl : ROps w a l c ops) (hl' : RFrags w a' l' c' frags) :
  CP 20 #[.agg #[.slice a l c, .slice a' l' c']] w fun e w' => ∃ n : Int, e = .returned (.int .i64 n) /\ Ext (fun _ => False) w w' /\ n = (nlN ops : Int) := by
 obtain ⟨e1, e3⟩ := hl.len
 have hx0 := (Ext.refl (X := fun _ => False) w).alloc (.cells #[.slice a l c, .slice a' l' c'] 30)
 refine q_Nameless a l c a' l' c' w _ ⟨trivial, ?_⟩
 refine ⟨fun n i w1 => 0 <= i /\ i <= l /\ Ext (fun _ => False) w w1 /\ n = (nlN (ops.take i.toNat) : Int) /\ n <= i, fun _ i _ => ((l : Int) - i).toNat, ⟨by omega, by omega, hx0, rfl, by omega⟩, ?_⟩
 rintro n i w1 ⟨h0, hi, hx, hn, hni⟩
 refine ⟨fun hlt K hK => ?_, fun hge => ?_⟩
 ·have hlt := of_decide_eq_true hlt
  obtain ⟨p, x, hp, hxs, cs, hc, a1, l1, c1, a2, l2, c2, a3, l3, c3, rfl, hv1, hv2, hv3⟩ := hl.get h0 hlt
  obtain ⟨⟨_, _, hc0⟩, hs0, ⟨_, _, hc1⟩, hs1, ⟨_, _, hc2⟩, hs2, ⟨_, _, hc3⟩, hs3, ⟨_, _, hc4⟩, -⟩ := hc
  have hx' := hx.alloc (.cells #[.string x.kind, .string x.name, .slice a1 l1 c1, .slice a2 l2 c2, .slice a3 l3 c3] 51)
  have hs := nlN_snoc (ops.take i.toNat) x
  rw [<- take_snoc h0 hxs] at hs
  refine ⟨p, hp, ⟨h0, hlt⟩, _, hx.cell hc0 id, _, hx.cell hc1 id, _, _, _, hx.cell hc2 id, _, _, _, hx.cell hc3 id, _, _, _, hx.cell hc4 id, trivial, trivial, fun he => hK _ _ ?_, fun hne => hK _ _ ?_⟩
  ·rw [if_pos (bytes_beq_t.1 he)] at hs
   rw [wrap_lt h0 (by omega), wrap_lt (n := n) (by omega) (by omega)]
   exact next h0 hlt ⟨hx', by omega, by omega⟩
  ·rw [if_neg (bytes_beq_f.1 hne)] at hs
   rw [wrap_lt h0 (by omega)]
   exact next h0 hlt ⟨hx', by omega, by omega⟩
 ·have hle := of_decide_eq_false hge
  rw [List.take_of_length_le (by omega)] at hn
  exact ⟨n, rfl, hx, hn⟩
end Go.VC
namespace Go.VC
open Go Go.Proofs
variable [DB]
theorem c_impl_RUniqueOperationNames {P : Int -> Prop} {wd : WorldD} {a1 : OA} {l1 c1 : Nat} {a2 : OA} {l2 c2 : Nat} {a6 : OA} {l6 c6 : Nat} {a7 : OA} {l7 c7 : Nat} {q8 : OA} {q8l q8c : Nat} {q9 : OA} {q9l q9c : Nat} {ops : List OpD} {frags : List Frag} {w : World}
  (hw : RWorld w wd [.slice a1 l1 c1, .slice a2 l2 c2, .string wd.query, .string wd.mutation, .string wd.subscription, .slice a6 l6 c6, .slice a7 l7 c7]) (ok3 : ∀ x ∈ wd.dirs, ∀ y ∈ x.args, okArgDef y) (ok4 : ∀ x ∈ wd.types, okDef x)
  (few6 : (pushD wd.types wd.possible).length <= 4194304) (few7 : (pushD wd.types wd.implements).length <= 4194304) (hl1 : ROps w q8 q8l q8c ops) (hl2 : RFrags w q9 q9l q9c frags) (ok1 : ∀ x ∈ ops, okOp x) (ok2 : ∀ x ∈ frags, okFrag x) (hr : RuleOK 43 ops frags P) (hB0 : DB.B <= w.heap.size) :
  CP 21 #[.agg #[.slice a1 l1 c1, .slice a2 l2 c2, .string wd.query, .string wd.mutation, .string wd.subscription, .slice a6 l6 c6, .slice a7 l7 c7], .agg #[.slice q8 q8l q8c, .slice q9 q9l q9c]] w fun e w' =>
   ∃ n, e = .returned (.tuple #[.int .i64 n, .bool true]) /\ P n /\ Ext (fun _ => False) w w' := by
 have x11 : Ext (fun _ => False) w (w.alloc (.cells #[.slice a1 l1 c1, .slice a2 l2 c2, .string wd.query, .string wd.mutation, .string wd.subscription, .slice a6 l6 c6, .slice a7 l7 c7] 40)) := (Ext.refl w).alloc _
 have x12 := x11.alloc (.cells #[.slice q8 q8l q8c, .slice q9 q9l q9c] 30)
 refine q_impl_RUniqueOperationNames a1 l1 c1 a2 l2 c2 wd.query wd.mutation wd.subscription a6 l6 c6 a7 l7 c7 q8 q8l q8c q9 q9l q9c w _ ⟨trivial, trivial, ?_⟩
 refine (c_impl_found (RWorld.keep x12.keep hw) ok3 ok4 few6 few7 (hl1.keep x12.keep) (hl2.keep x12.keep) ok1 ok2 hr (Nat.le_trans hB0 x12.size)).mono ?_
 rintro _ w' ⟨n, rfl, hp, hx⟩
 exact ⟨n, true, rfl, ⟨hx.keepT _, hx.keepT _, trivial⟩, n, rfl, hp, x12.then hx⟩
theorem c_law_FnRuleOps {S : List OpD -> List Frag -> Prop} (rule : ∀ ops frags, ops.length <= 12 -> frags.length <= 12 -> (∀ x ∈ ops, okOp x) -> (∀ x ∈ frags, okFrag x) -> spTot ops frags <= 2097152 -> nlN ops <= 1 -> RuleOK 43 ops frags fun n => 0 <= n /\ (n > 0 ↔ S ops frags))
  (spec : ∀ {a : OA} {l c : Nat} {a' : OA} {l' c' : Nat} {ops : List OpD} {frags : List Frag} {w : World}, ROps w a l c ops -> RFrags w a' l' c' frags -> ops.length <= 12 -> frags.length <= 12 -> (∀ x ∈ ops, okOp x) -> (∀ x ∈ frags, okFrag x) -> spTot ops frags <= 2097152 -> nlN ops <= 1 -> CP 22 #[.agg #[.slice a l c, .slice a' l' c']] w (RetB w fun b => b = true ↔ S ops frags))
  {d1 : OA} {d1l d1c : Nat} {d2 : OA} {d2l d2c : Nat} {d3 : OA} {d3l d3c : Nat} {d4 : OA} {d4l d4c : Nat} {d5 : OA} {d5l d5c : Nat} {q6 : OA} {q6l q6c : Nat} {q7 : OA} {q7l q7c : Nat} {defs exts : List SchemaDef} {dirs : List DirDef} {types texts : List Def} {ops : List OpD} {frags : List Frag} {w : World}
  (h1 : RSchemaDefs w d1 d1l d1c defs) (h2 : RSchemaDefs w d2 d2l d2c exts) (h3 : RDirDefs w d3 d3l d3c dirs) (h4 : RDefs w d4 d4l d4c types) (h5 : RDefs w d5 d5l d5c texts) (hs : d1l + d2l <= 4194304) (hsp : spTot ops frags <= 2097152) (h6 : ROps w q6 q6l q6c ops) (h7 : RFrags w q7 q7l q7c frags) (hB0 : DB.B <= w.heap.size) :
  CP 6 #[.agg #[.slice d1 d1l d1c, .slice d2 d2l d2c, .slice d3 d3l d3c, .slice d4 d4l d4c, .slice d5 d5l d5c], .agg #[.slice q6 q6l q6c, .slice q7 q7l q7c]] w fun e w' => e = .returned (.bool true) /\ Ext (fun _ => False) w w' := by
 have x8 : Ext (fun _ => False) w (w.alloc (.cells #[.slice d1 d1l d1c, .slice d2 d2l d2c, .slice d3 d3l d3c, .slice d4 d4l d4c, .slice d5 d5l d5c] 26)) := (Ext.refl w).alloc _
 have x9 := x8.alloc (.cells #[.slice q6 q6l q6c, .slice q7 q7l q7c] 30)
 refine q_laws_FnRuleOps d1 d1l d1c d2 d2l d2c d3 d3l d3c d4 d4l d4c d5 d5l d5c q6 q6l q6c q7 q7l q7c w _ ⟨trivial, trivial, fun K10 hK10 => ?_⟩
 have key10 : ∀ b w', Ext (fun _ => False) w w' -> K10 b w' := by
  intro b w' xw
  refine hK10 b w' ⟨fun _ => ⟨rfl, xw⟩, fun _ => ?_⟩
  refine (c_Build (h1.keep xw.keep) (h2.keep xw.keep) (h3.keep xw.keep) (h4.keep xw.keep) (h5.keep xw.keep) hs (Nat.le_trans hB0 xw.size)).mono ?_
  rintro _ w14 ⟨q15, b16, rfl, x14, hok⟩
  refine ⟨q15, b16, rfl, ⟨x14.keepT _, x14.keepT _, trivial⟩, fun K17 hK17 => ?_⟩
  have y14 := xw.then x14
  have key17 : ∀ b w', Ext (fun _ => False) w14 w' -> (b = false -> b16 = true /\ ops.length <= 12 /\ frags.length <= 12 /\ (∀ x ∈ ops, okOp x) /\ (∀ x ∈ frags, okFrag x) /\ nlN ops <= 1) -> K17 b w' := by
   intro b w19 x19 hb
   have y19 := y14.then x19
   refine hK17 b w19 ⟨fun _ => ⟨rfl, y19⟩, fun hbf => ?_⟩
   obtain ⟨hb16, n1, n2, ok1, ok2, nl⟩ := hb hbf
   obtain ⟨k, rfl, A, L, C, hB, hR, hO⟩ := hok hb16
   intro w20 e20
   have x20 : Ext (fun _ => False) w19 w20 := by rw [e20]; exact (Ext.refl w19).drew
   have y20 := y19.then x20
   have z20 := x19.then x20
   refine (c_World_Wide (hB.ext z20 id) (h4.keep y20.keep) (hR.keep z20.keep) (h3.keep y20.keep) hO.few.1 (fun t ht => by have := hO.small t ht; omega) hO.few.2 (Nat.le_trans hB0 y20.size)).mono ?_
   rintro _ w22 ⟨cs, rfl, hW, x22⟩
   obtain ⟨ok3, ok4, few6, few7⟩ := wide_ok hO
   have hW' := hW
   obtain ⟨a1, l1, c1, a2, l2, c2, a6, l6, c6, a7, l7, c7, rfl, -⟩ := hW'
   have y22 := y20.then x22
   refine ⟨a1, l1, c1, a2, l2, c2, _, _, _, a6, l6, c6, a7, l7, c7, rfl, ⟨x22.keepT _, x22.keepT _, trivial⟩, ⟨rfl, trivial⟩, ?_⟩
   refine (c_impl_RUniqueOperationNames hW ok3 ok4 few6 few7 (h6.keep y22.keep) (h7.keep y22.keep) ok1 ok2 (rule ops frags n1 n2 ok1 ok2 hsp nl) (Nat.le_trans hB0 y22.size)).mono ?_
   rintro _ w31 ⟨n, rfl, ⟨hn0, hn⟩, x31⟩
   have y31 := y22.then x31
   refine ⟨n, true, rfl, ⟨x31.keepT _, x31.keepT _, trivial⟩, trivial, trivial, trivial, ?_⟩
   refine (spec (h6.keep y31.keep) (h7.keep y31.keep) n1 n2 ok1 ok2 hsp nl).mono ?_
   rintro _ w35 ⟨b36, rfl, x35, hb36⟩
   have y35 := y31.then x35
   refine ⟨b36, rfl, ⟨x35.keepT _, x35.keepT _, trivial⟩, ?_⟩
   refine (c_laws_told n true b36 w35).mono ?_
   rintro _ w38 ⟨rfl, rfl⟩
   refine ⟨_, rfl, ⟨(Ext.refl _).keepT _, (Ext.refl _).keepT _, trivial⟩, ?_, y35⟩
   rw [told_true hn0 (hn.trans hb36.symm)]
  refine ⟨fun hb => ?_, fun hb => key17 true w14 (Ext.refl w14) nofun⟩
  refine (c_Small (h6.keep y14.keep) (h7.keep y14.keep)).mono ?_
  rintro _ w41 ⟨b42, rfl, x41, hsm⟩
  refine ⟨b42, rfl, ⟨x41.keepT _, x41.keepT _, trivial⟩, fun hb42 => ?_, fun _ => key17 true w41 x41 nofun⟩
  refine (c_Nameless (h6.keep (y14.then x41).keep) (h7.keep (y14.then x41).keep)).mono ?_
  rintro _ w44 ⟨n45, rfl, x44, hn45⟩
  exact ⟨n45, rfl, ⟨x44.keepT _, x44.keepT _, trivial⟩, key17 _ w44 (x41.then x44) fun h => ⟨by simpa using hb, (hsm (by simpa using hb42)).1, (hsm (by simpa using hb42)).2.1, (hsm (by simpa using hb42)).2.2.1, (hsm (by simpa using hb42)).2.2.2, by
   have := of_decide_eq_false h
   rw [hn45] at this
   unfold nlN at this ⊢
   omega⟩⟩
 refine (c_laws_zzFits20 d1 d1l d1c d2 d2l d2c d3 d3l d3c d4 d4l d4c d5 d5l d5c _).mono ?_
 rintro _ w44 ⟨b45, rfl, x44, -⟩
 have y44 := x9.then x44
 refine ⟨b45, rfl, ⟨x44.keepT _, x44.keepT _, trivial⟩, fun _ => ?_, fun _ => key10 true w44 y44⟩
 refine (c_laws_zzFits21 q6 q6l q6c q7 q7l q7c _).mono ?_
 rintro _ w47 ⟨b48, rfl, x47, -⟩
 exact ⟨b48, rfl, ⟨x47.keepT _, x47.keepT _, trivial⟩, key10 _ w47 (y44.then x47)⟩
theorem c_FnRuleOps {d1 : OA} {d1l d1c : Nat} {d2 : OA} {d2l d2c : Nat} {d3 : OA} {d3l d3c : Nat} {d4 : OA} {d4l d4c : Nat} {d5 : OA} {d5l d5c : Nat} {q6 : OA} {q6l q6c : Nat} {q7 : OA} {q7l q7c : Nat} {defs exts : List SchemaDef} {dirs : List DirDef} {types texts : List Def} {ops : List OpD} {frags : List Frag} {w : World}
  (h1 : RSchemaDefs w d1 d1l d1c defs) (h2 : RSchemaDefs w d2 d2l d2c exts) (h3 : RDirDefs w d3 d3l d3c dirs) (h4 : RDefs w d4 d4l d4c types) (h5 : RDefs w d5 d5l d5c texts) (hs : d1l + d2l <= 4194304) (hsp : spTot ops frags <= 2097152) (h6 : ROps w q6 q6l q6c ops) (h7 : RFrags w q7 q7l q7c frags) (hB0 : DB.B <= w.heap.size) :
  CP 6 #[.agg #[.slice d1 d1l d1c, .slice d2 d2l d2c, .slice d3 d3l d3c, .slice d4 d4l d4c, .slice d5 d5l d5c], .agg #[.slice q6 q6l q6c, .slice q7 q7l q7c]] w fun e w' => e = .returned (.bool true) /\ Ext (fun _ => False) w w' :=
 c_law_FnRuleOps (S := fun ops _ => ¬ (ops.map OpD.name).Nodup) (fun ops frags h _ _ _ _ _ => opsRule ops frags h) (fun h h' _ _ _ _ _ nl => by
  have := c_OpsTwice h h'
  rwa [nz_nodup nl] at this) h1 h2 h3 h4 h5 hs hsp h6 h7 hB0
end Go.VC
