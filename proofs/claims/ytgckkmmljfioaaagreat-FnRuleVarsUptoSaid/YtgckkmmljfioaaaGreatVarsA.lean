/- Part of the proof of a law of a rule over documents (VarsA), where what the arguments hold is of bulk at most 1048576. -/
import Derived.Test.YtgckkmmljfioaaaGreatBaseB
import Derived.Test.YtgckkmmljfioaaaGreatWalkD
import Derived.Test.YtgckkmmljfioaaaGreatLawA
set_option linter.unusedVariables false
set_option linter.unusedSimpArgs false
set_option linter.unusedSectionVars false
set_option linter.deprecated false
namespace Go.VC
open Go Go.Proofs
set_option maxRecDepth 100000
theorem q_rules_UniqueVariableNamesRule (a : OA) (b : Value) (w : World) (R : EW) (h :
 (b.oneCell' = true /\ True) /\ (let c := w.alloc (.cells #[b] 122);
 CP 72 #[.pointer a, (.func (.func 77) #[] #[(.pointer (some (adr w.heap.size)))])] c (fun d e => d = .returned (.tuple #[]) /\ True /\ R (.returned (.tuple #[])) e))) : CP 44 #[.pointer a, b] w R :=
 vcq Tryz.func44 [] [] [.l (.optr a), .l (.val b)] h
theorem q_rules_UniqueVariableNamesRule_1 (a : OA) (b : OA) (c : Addr) (w : World) (R : EW) (h :
 let d := w.alloc (.map #[] 0);
 ∃ e, b = some e /\ ∃ f g i, d.cell? (e.add 3) = some (.slice f g i) /\ ∃ (j : Int -> World -> Prop) (k : Int -> World -> Nat), j 0 d /\
 (∀ l : Int, ∀ m : World, j l m ->
 (((decide (l < (g : Int))) = true ->
 ∃ n, f = some n /\ (0 <= l /\ l < (g : Int)) /\ ∃ o, m.cell? (n.add (l.toNat * 1)) = some (.pointer o) /\ ∀ p : World -> Prop, (∀ q : World,
 (∃ r, o = some r /\ ∃ s, q.cell? (r.add 1) = some (.string s) /\ ∃ t, (Instr.lookup 174 (.map (some w.heap.size)) (.string s) false).run Tryz.prog q = .ok (.int .i64 t) q /\ ∃ u, (Instr.mapUpdate 174 (.map (some w.heap.size)) (.string s) (.int .i64 (IntKind.i64.wrap (t + 1)))).run Tryz.prog q = .ok () u /\ True /\ (j (IntKind.i64.wrap (l + 1)) u /\ k (IntKind.i64.wrap (l + 1)) u < k l m)) ->
 p q) ->
 ∃ v, o = some v /\ ∃ x, m.cell? (v.add 1) = some (.string x) /\ ∃ y, (Instr.lookup 174 (.map (some w.heap.size)) (.string x) false).run Tryz.prog m = .ok (.int .i64 y) m /\ (((y == 1) = true ->
 ∀ z, z = m.drew -> ∃ A : Value, z.cell? c = some A /\ ∃ B, o = some B /\ ∃ C, z.cell? (B.add 1) = some (.string C) /\ ∃ D, o = some D /\ ∃ E, z.cell? (D.add 5) = some (.pointer E) /\ True /\ (let F := z.alloc (.cells #[(ifcV (some (9, (.string C))))] 20);
 ((F.cell? (D.add 5) = z.cell? (D.add 5)) /\ (F.cell? c = z.cell? c) /\ True) /\ CP 65 #[(.string (⟨#[84,104,101,114,101,32,99,97,110,32,98,101,32,111,110,108,121,32,111,110,101,32,118,97,114,105,97,98,108,101,32,110,97,109,101,100,32,34,36,37,115,34,46]⟩ : BA)), (.slice (some (adr z.heap.size)) 1 1)] F (fun G H => ∃ I : Value, G = .returned I /\ True /\ ((H.cell? (D.add 5) = F.cell? (D.add 5)) /\ (H.cell? c = F.cell? c) /\ True) /\ CP 66 #[.pointer E] H (fun J K => ∃ L : Value, J = .returned L /\ True /\ ((K.cell? c = H.cell? c) /\ True) /\ (I.oneCell' = true /\ L.oneCell' = true /\ True) /\ (let M := K.alloc (.cells #[I, L] 135);
 ((M.cell? c = K.cell? c) /\ True) /\ ∃ N O, A = .func (.func N) #[] O.toArray /\ ∃ P, Tryz.prog.funcs[N]? = some P /\ (P.name == "runtime.NumGoroutine" || P.body.isNone) = false /\ CP N ([(.slice (some (adr K.heap.size)) 2 2)] ++ O).toArray M (fun Q S => Q = .returned (.tuple #[]) /\ True /\ True /\ p S)))))) /\
 ((y == 1) = false ->
 p m))) /\
 ((decide (l < (g : Int))) = false ->
 R (.returned (.tuple #[])) m)))) : CP 77 #[.pointer a, .pointer b, (.pointer (some c))] w R :=
 vcq Tryz.func77 [] [(5, ⟨[(14, .int .i64)],[]⟩), (16, ⟨[],[]⟩)] [.l (.optr a), .l (.optr b), .l (.ptr c)] h
theorem q_impl_RUniqueVariableNames (a : OA) (b c : Nat) (d : OA) (e f : Nat) (g : BA) (i : BA) (j : BA) (k : OA) (l m : Nat) (n : OA) (o p : Nat) (q : OA) (r s : Nat) (t : OA) (u v : Nat) (w : World) (R : EW) (h :
 True /\ (let x := w.alloc (.cells #[.slice a b c, .slice d e f, .string g, .string i, .string j, .slice k l m, .slice n o p] 40);
 True /\ (let y := x.alloc (.cells #[.slice q r s, .slice t u v] 30);
 CP 31 #[(.agg #[.slice a b c, .slice d e f, .string g, .string i, .string j, .slice k l m, .slice n o p]), (.agg #[.slice q r s, .slice t u v]), (.func (.func 44) #[] #[])] y (fun z A => ∃ B, ∃ C, z = .returned (.tuple #[.int .i64 B, .bool C]) /\ (KeepT 40 y A /\ KeepT 30 y A /\ True) /\ R (.returned (.tuple #[.int .i64 B, .bool C])) A)))) : CP 23 #[(.agg #[.slice a b c, .slice d e f, .string g, .string i, .string j, .slice k l m, .slice n o p]), (.agg #[.slice q r s, .slice t u v])] w R :=
 vcq Tryz.func23 [2, 3] [] [.agg [.slice a b c, .slice d e f, .str g, .str i, .str j, .slice k l m, .slice n o p], .agg [.slice q r s, .slice t u v]] h
theorem q_VarsTwice (a : OA) (b c : Nat) (d : OA) (e f : Nat) (w : World) (R : EW) (h :
 True /\ (let g := w.alloc (.cells #[.slice a b c, .slice d e f] 30);
 ∃ (i : Int -> World -> Prop) (j : Int -> World -> Nat), i 0 g /\
 (∀ k : Int, ∀ l : World, i k l ->
 (((decide (k < (b : Int))) = true ->
 ∃ m, a = some m /\ (0 <= k /\ k < (b : Int)) /\ ∃ n, l.cell? (m.add (k.toNat * 5)) = some (.string n) /\ ∃ o, l.cell? ((m.add (k.toNat * 5)).add 1) = some (.string o) /\ ∃ p q r, l.cell? ((m.add (k.toNat * 5)).add 2) = some (.slice p q r) /\ ∃ s t u, l.cell? ((m.add (k.toNat * 5)).add 3) = some (.slice s t u) /\ ∃ v x y, l.cell? ((m.add (k.toNat * 5)).add 4) = some (.slice v x y) /\ True /\ (let z := l.alloc (.cells #[(.string (⟨#[]⟩ : BA)), (.string (⟨#[]⟩ : BA)), .slice none 0 0, .slice none 0 0, .slice none 0 0] 51);
 True /\ (let A := l.alloc (.cells #[.string n, .string o, .slice p q r, .slice s t u, .slice v x y] 51);
 ∃ (B : OA -> Nat -> Nat -> Int -> World -> Prop) (C : OA -> Nat -> Nat -> Int -> World -> Nat), B none 0 0 0 A /\
 (∀ (D : OA) (E F : Nat), ∀ G : Int, ∀ H : World, B D E F G H ->
 (((decide (G < (q : Int))) = true ->
 ∃ I, p = some I /\ (0 <= G /\ G < (q : Int)) /\ ∃ J, H.cell? (I.add (G.toNat * 6)) = some (.string J) /\ ∃ K, H.cell? ((I.add (G.toNat * 6)).add 1) = some (.string K) /\ ∃ L M N, H.cell? ((I.add (G.toNat * 6)).add 2) = some (.slice L M N) /\ ∃ O, H.cell? ((I.add (G.toNat * 6)).add 3) = some (.bool O) /\ ∃ P Q S, H.cell? ((I.add (G.toNat * 6)).add 4) = some (.slice P Q S) /\ ∃ U V W, H.cell? ((I.add (G.toNat * 6)).add 5) = some (.slice U V W) /\ True /\ (let X := H.alloc (.cells #[(.string (⟨#[]⟩ : BA)), (.string (⟨#[]⟩ : BA)), .slice none 0 0, .bool false, .slice none 0 0, .slice none 0 0] 59);
 True /\ (let Y := H.alloc (.cells #[.string J, .string K, .slice L M N, .bool O, .slice P Q S, .slice U V W] 59);
 True /\ (let Z := Y.alloc (.cells #[.string J] 9);
 ∃ aa ab ac, ∃ ad, (Go.builtin .append #[71, 71] 71 #[false, false] #[.slice D E F, (.slice (some (adr Y.heap.size)) 1 1)]).run Tryz.prog Z = .ok (.value (.slice aa ab ac)) ad /\ (KeepT 30 Z ad /\ KeepT 51 Z ad /\ KeepT 59 Z ad /\ True) /\ (B aa ab ac (IntKind.i64.wrap (G + 1)) ad /\ C aa ab ac (IntKind.i64.wrap (G + 1)) ad < C D E F G H))))) /\
 ((decide (G < (q : Int))) = false ->
 CP 42 #[.slice D E F] H (fun ae af => ∃ ag, ae = .returned (.bool ag) /\ (KeepT 30 H af /\ KeepT 51 H af /\ True) /\ ((ag = true ->
 R (.returned (.bool true)) af) /\
 (ag = false ->
 (i (IntKind.i64.wrap (k + 1)) af /\ j (IntKind.i64.wrap (k + 1)) af < j k l)))))))))) /\
 ((decide (k < (b : Int))) = false ->
 R (.returned (.bool false)) l))))) : CP 24 #[(.agg #[.slice a b c, .slice d e f])] w R :=
 vcq Tryz.func24 [1, 4, 7] [(6, ⟨[(11, .int .i64)],[]⟩), (23, ⟨[(5, .slice), (18, .int .i64)],[]⟩)] [.agg [.slice a b c, .slice d e f]] h
theorem q_laws_FnRuleVars (a : OA) (b c : Nat) (d : OA) (e f : Nat) (g : OA) (i j : Nat) (k : OA) (l m : Nat) (n : OA) (o p : Nat) (q : OA) (r s : Nat) (t : OA) (u v : Nat) (w : World) (R : EW) (h :
 True /\ (let x := w.alloc (.cells #[.slice a b c, .slice d e f, .slice g i j, .slice k l m, .slice n o p] 26);
 True /\ (let y := x.alloc (.cells #[.slice q r s, .slice t u v] 30);
 ∀ z : Bool -> World -> Prop, (∀ A : Bool, ∀ B : World,
 (((A = true ->
 R (.returned (.bool true)) B) /\
 (A = false ->
 CP 10 #[(.agg #[.slice a b c, .slice d e f, .slice g i j, .slice k l m, .slice n o p])] B (fun C D => ∃ E, ∃ F, C = .returned (.tuple #[.pointer E, .bool F]) /\ (KeepT 26 B D /\ KeepT 30 B D /\ True) /\ ∀ G : Bool -> World -> Prop, (∀ H : Bool, ∀ I : World,
 (((H = true ->
 R (.returned (.bool true)) I) /\
 (H = false ->
 ∀ J, J = I.drew -> CP 13 #[.pointer E] J (fun K L => ∃ M N O, ∃ P Q S, ∃ U, ∃ V, ∃ W, ∃ X Y Z, ∃ aa ab ac, K = .returned (.agg #[.slice M N O, .slice P Q S, .string U, .string V, .string W, .slice X Y Z, .slice aa ab ac]) /\ (KeepT 26 J L /\ KeepT 30 J L /\ True) /\ ((0 = 0) /\ True) /\ CP 23 #[(.agg #[.slice M N O, .slice P Q S, .string U, .string V, .string W, .slice X Y Z, .slice aa ab ac]), (.agg #[.slice q r s, .slice t u v])] L (fun ad ae => ∃ af, ∃ ag, ad = .returned (.tuple #[.int .i64 af, .bool ag]) /\ (KeepT 26 L ae /\ KeepT 30 L ae /\ True) /\ True /\ True /\ True /\ CP 24 #[(.agg #[.slice q r s, .slice t u v])] ae (fun ah ai => ∃ aj, ah = .returned (.bool aj) /\ (KeepT 26 ae ai /\ KeepT 30 ae ai /\ True) /\ CP 14 #[.int .i64 af, .bool ag, .bool aj] ai (fun ak al => ∃ am, ak = .returned (.bool am) /\ (KeepT 26 ai al /\ KeepT 30 ai al /\ True) /\ R (.returned (.bool am)) al))))))) ->
 G H I) ->
 (((!F) = false -> CP 11 #[(.agg #[.slice q r s, .slice t u v])] D (fun an ao => ∃ ap, an = .returned (.bool ap) /\ (KeepT 26 D ao /\ KeepT 30 D ao /\ True) /\ G (!ap) ao)) /\ ((!F) = true -> G true D)))))) ->
 z A B) ->
 CP 8 #[(.agg #[.slice a b c, .slice d e f, .slice g i j, .slice k l m, .slice n o p])] y (fun aq ar => ∃ au, aq = .returned (.bool au) /\ (KeepT 26 y ar /\ KeepT 30 y ar /\ True) /\ (((!au) = false -> CP 9 #[(.agg #[.slice q r s, .slice t u v])] ar (fun av ax => ∃ ay, av = .returned (.bool ay) /\ (KeepT 26 ar ax /\ KeepT 30 ar ax /\ True) /\ z (!ay) ax)) /\ ((!au) = true -> z true ar)))))) : CP 7 #[(.agg #[.slice a b c, .slice d e f, .slice g i j, .slice k l m, .slice n o p]), (.agg #[.slice q r s, .slice t u v])] w R :=
 vcq Tryz.func7 [2, 3] [(3, ⟨[(16, .bool)],[]⟩), (13, ⟨[(28, .bool)],[]⟩)] [.agg [.slice a b c, .slice d e f, .slice g i j, .slice k l m, .slice n o p], .agg [.slice q r s, .slice t u v]] h
end Go.VC
namespace Go.VC
open Go Go.Proofs
set_option maxRecDepth 100000
theorem q_core_Events_OnOperation (a : OA) (b : Value) (w : World) (R : EW) (h :
 ∃ c, a = some c /\ ∃ d e f, w.cell? c = some (.slice d e f) /\ (b.oneCell' = true /\ True) /\ (let g := w.alloc (.cells #[b] 169);
 ∃ i j k, ∃ l, (Go.builtin .append #[108, 108] 108 #[false, false] #[.slice d e f, (.slice (some (adr w.heap.size)) 1 1)]).run Tryz.prog g = .ok (.value (.slice i j k)) l /\ True /\ ∃ m, a = some m /\ Off l m 1 [] /\ True /\ (let n := (l.setCell m (.slice i j k));
 R (.returned (.tuple #[])) n))) : CP 72 #[.pointer a, b] w R :=
 vcq Tryz.func72 [] [] [.l (.optr a), .l (.val b)] h
end Go.VC
namespace Go.VC
open Go Go.Proofs
variable [DB]
theorem c_core_Events_OnOperation {eb : Nat} {f : Value} {cs : List Value} {w : World} (hf : smallV f) (hB : Blk w eb 118 (.slice none 0 0 :: cs)) :
  CP 72 #[.pointer (some (adr eb)), f] w fun e w' => e = .returned (.tuple #[]) /\ ∃ (p : Addr) (C : Nat), Blk w' eb 118 (.slice (some p) 1 C :: cs) /\ At w' 169 p f /\ w.heap.size <= p.block /\ Ext (fun b => b = eb) w w' := by
 obtain ⟨p, C, w7, r7, ha, hp, hx, -⟩ := on_append 108 169 Tryz.t169 _ _ (by kernel_rfl) (by kernel_rfl) rfl (by kernel_rfl) rfl (by kernel_rfl) (by decide) (w := w) hf 108 #[false, false]
 have hB7 := hB.ext hx id
 have hlt := hB.lt
 have hs : Ext (fun b => b = eb) w7 (w7.setCell ⟨eb, 0, none⟩ (.slice (some p) 1 C)) := Ext.setCell (X := fun b => b = eb) (Ext.refl _) (a := ⟨eb, 0, none⟩) (.inl rfl) _
 refine q_core_Events_OnOperation (some (adr eb)) f w _ ⟨adr eb, rfl, none, 0, 0, (hB.at (j := 0) rfl).cell, ⟨hf.one, trivial⟩, some p, 1, C, w7, r7, trivial, adr eb, rfl, hB7.off (j := 0) (n := 1) (q := fun _ => false) (by simp) rfl, trivial, rfl, p, C, hB7.set 0 _, hs.at (by show ¬ p.block = eb; omega) ha, hp, (hx.toM _).trans hs fun _ _ e => e⟩
end Go.VC
namespace Go.VC
open Go Go.Proofs
set_option maxRecDepth 100000
theorem q_twice (a : OA) (b c : Nat) (w : World) (R : EW) (h :
 ∃ (d : Int -> World -> Prop) (e : Int -> World -> Nat), d 0 w /\
 (∀ f : Int, ∀ g : World, d f g ->
 (((decide (f < (b : Int))) = true ->
 ∃ i, a = some i /\ (0 <= f /\ f < (b : Int)) /\ ∃ j, g.cell? (i.add (f.toNat * 1)) = some (.string j) /\ ∀ k : Bool -> World -> Prop, (∀ l : Bool, ∀ m : World,
 (((l = true ->
 R (.returned (.bool true)) m) /\
 (l = false ->
 (d (IntKind.i64.wrap (f + 1)) m /\ e (IntKind.i64.wrap (f + 1)) m < e f g)))) ->
 k l m) ->
 (((!(j.toList == (⟨#[]⟩ : BA).toList)) = true -> (0 <= (0 : Int) /\ (0 : Int) <= f /\ f <= (c : Int)) /\ CP 48 #[.string j, (.slice (if c = (0 : Int).toNat then a else Option.map (·.add ((0 : Int).toNat * 1)) a) (f.toNat - (0 : Int).toNat) (c - (0 : Int).toNat))] g (fun n o => ∃ p, n = .returned (.bool p) /\ True /\ k p o)) /\ ((!(j.toList == (⟨#[]⟩ : BA).toList)) = false -> k false g))) /\
 ((decide (f < (b : Int))) = false ->
 R (.returned (.bool false)) g)))) : CP 42 #[.slice a b c] w R :=
 vcq Tryz.func42 [] [(6, ⟨[(7, .int .i64)],[]⟩), (17, ⟨[(20, .bool)],[]⟩)] [.l (.slice a b c)] h
end Go.VC
namespace Go.VC
open Go Go.Proofs
variable [DB]
def nz (l : List BA) : List BA := l.filter fun s => !decide (s = E0)
theorem nz_snoc_e (l : List BA) : nz (l ++ [E0]) = nz l := by
 have : ([E0].filter fun s => !decide (s = E0)) = [] := by simp
 rw [nz, List.filter_append, this, List.append_nil]; rfl
theorem nz_snoc {l : List BA} {x : BA} (h : x ≠ E0) : nz (l ++ [x]) = nz l ++ [x] := by
 have : ([x].filter fun s => !decide (s = E0)) = [x] := by simp [h]
 rw [nz, List.filter_append, this]; rfl
theorem mem_nz {l : List BA} {x : BA} : x ∈ nz l ↔ x ∈ l /\ x ≠ E0 := by simp [nz, List.mem_filter]
theorem nz_all {l : List BA} (h : ∀ x ∈ l, x ≠ E0) : nz l = l := List.filter_eq_self.2 fun x hx => by simp [h x hx]
theorem nz_take {l : List BA} {k : Nat} (h : (nz l).Nodup) : (nz (l.take k)).Nodup := h.sublist ((List.take_sublist k l).filter _)
theorem take_snoc {α : Type} {xs : List α} {i : Int} {x : α} (h0 : 0 <= i) (hx : xs[i.toNat]? = some x) : xs.take (i + 1).toNat = xs.take i.toNat ++ [x] := by
 rw [show (i + 1).toNat = i.toNat + 1 by omega, List.take_add_one, hx]; rfl
theorem SlL.take {α : Type} {w : World} {T n : Nat} {R : α -> List Value -> Prop} {a : OA} {l c : Nat} {xs : List α} (h : SlL w T n R a l c xs) {i : Nat} (hi : i <= l) : SlL w T n R a i c (xs.take i) := by
 obtain ⟨h1, h2, h3, h4⟩ := h
 refine ⟨?_, by omega, by omega, fun j x hx => h4 j x ?_⟩
 ·rw [List.length_take]; omega
 ·rw [List.getElem?_take] at hx
  split at hx
  ·exact hx
  ·cases hx
theorem slice_same (a : OA) (c : Nat) : (if c = (0 : Int).toNat then a else Option.map (·.add ((0 : Int).toNat * 1)) a) = a := by
 split
 ·rfl
 ·cases a with
  | none => rfl
  | some a => rfl
theorem c_twice {a : OA} {l c : Nat} {xs : List BA} {w : World} (hl : RStrs w a l c xs) :
  CP 42 #[.slice a l c] w (RetB w fun b => b = true ↔ ¬ (nz xs).Nodup) := by
 obtain ⟨e1, e3⟩ := hl.len
 have hlc : l <= c := hl.2.1
 refine q_twice a l c w _ ⟨fun i w1 => 0 <= i /\ i <= l /\ Ext (fun _ => False) w w1 /\ (nz (xs.take i.toNat)).Nodup, fun i _ => ((l : Int) - i).toNat, ⟨by omega, by omega, Ext.refl w, by simp [nz]⟩, ?_⟩
 rintro i w1 ⟨h0, hi, hx, hn⟩
 refine ⟨fun hlt => ?_, fun hge => ?_⟩
 ·have hlt := of_decide_eq_true hlt
  obtain ⟨p, x, hp, hxs, cs, hc, rfl⟩ := hl.get h0 hlt
  refine ⟨p, hp, ⟨h0, hlt⟩, x, hx.cell hc.1.choose_spec.2 id, fun K hK => ?_⟩
  have key : ∀ (z : Bool) w', Ext (fun _ => False) w1 w' -> (z = true ↔ x ≠ E0 /\ x ∈ xs.take i.toNat) -> K z w' := by
   intro z w' hx' hz
   refine hK z w' ⟨fun h => ⟨true, rfl, hx.then hx', fun _ hnd => ?_, fun _ => rfl⟩, fun h => ?_⟩
   ·obtain ⟨hne, hm⟩ := hz.1 h
    have := nz_take (k := (i + 1).toNat) hnd
    rw [take_snoc h0 hxs, nz_snoc hne, nodup_snoc] at this
    exact this.2 (mem_nz.2 ⟨hm, hne⟩)
   ·rw [wrap_lt h0 (by omega)]
    refine next h0 hlt ⟨hx.then hx', ?_⟩
    rw [take_snoc h0 hxs]
    by_cases he : x = E0
    ·rw [he, nz_snoc_e]; exact hn
    ·rw [nz_snoc he, nodup_snoc]
     refine ⟨hn, fun hm => ?_⟩
     rw [hz.2 ⟨he, (mem_nz.1 hm).1⟩] at h
     cases h
  refine ⟨fun hne => ⟨⟨by omega, h0, by omega⟩, ?_⟩, fun he => key false w1 (Ext.refl w1) ⟨nofun, fun h => absurd (nbeq_f he) h.1⟩⟩
  rw [slice_same]
  have hne := nbeq_t hne
  have ht : RStrs w1 a (i.toNat - (0 : Int).toNat) (c - (0 : Int).toNat) (xs.take i.toNat) := SlL.take (T := 9) (n := 1) (R := fun s cs => cs = [.string s]) (hl.keep hx.keep) (i := i.toNat) (by omega)
  refine (c_in x ht).mono ?_
  rintro _ w' ⟨b, rfl, hx', hb⟩
  exact ⟨b, rfl, trivial, key b w' hx' (hb.trans ⟨fun h => ⟨hne, h⟩, fun h => h.2⟩)⟩
 ·have hle := of_decide_eq_false hge
  rw [List.take_of_length_le (by omega)] at hn
  exact ⟨false, rfl, hx, nofun, fun h => absurd hn h⟩
end Go.VC
namespace Go.VC
open Go Go.Proofs
variable [DB]
def cntN (k : BA) (l : List BA) : Nat := (l.filter fun u => decide (u = k)).length
theorem cntN_snoc (k : BA) (l : List BA) (x : BA) : cntN k (l ++ [x]) = cntN k l + if x = k then 1 else 0 := by
 unfold cntN
 rw [List.filter_append, List.length_append]
 by_cases h : x = k <;> simp [h]
theorem cntN_pos {k : BA} {l : List BA} : 0 < cntN k l ↔ k ∈ l := by
 unfold cntN
 rw [List.length_pos_iff_exists_mem]
 constructor
 ·rintro ⟨u, hu⟩
  obtain ⟨h1, h2⟩ := List.mem_filter.1 hu
  exact of_decide_eq_true h2 ▸ h1
 ·exact fun h => ⟨k, List.mem_filter.2 ⟨h, by simp⟩⟩
theorem cntN_nodup {k : BA} : ∀ {l : List BA}, l.Nodup -> cntN k l <= 1
 | [], _ => by simp [cntN]
 | x :: l, h => by
  obtain ⟨h1, h2⟩ := List.nodup_cons.1 h
  by_cases hx : x = k
  ·have h0 : ¬ 0 < cntN k l := fun h => h1 (hx ▸ cntN_pos.1 h)
   have : cntN k (x :: l) = cntN k l + 1 := by simp [cntN, hx]
   omega
  ·have : cntN k (x :: l) = cntN k l := by simp [cntN, hx]
   have := cntN_nodup (k := k) h2
   omega
theorem cntN_len (k : BA) (l : List BA) : cntN k l <= l.length := List.length_filter_le _ _
def cval (n : Nat) : Option Value := if n = 0 then none else some (.int .i64 n)
def IM (w : World) (mb : Nat) (l : List BA) : Prop := ∃ m, SMap w mb m /\ ∀ k, mget m k = cval (cntN k l)
theorem IM.ext {X : Nat -> Prop} {w w' : World} {b : Nat} {l : List BA} (h : IM w b l) (hx : Ext X w w') (hb : ¬ X b) : IM w' b l := by
 obtain ⟨m, h1, h2⟩ := h
 exact ⟨m, h1.ext hx hb, h2⟩
theorem IM.look {w : World} {b : Nat} {l : List BA} (h : IM w b l) (u : BA) : (Instr.lookup 174 (.map (some b)) (.string u) false).run Tryz.prog w = .ok (.int .i64 (cntN u l : Int)) w := by
 obtain ⟨m, h1, h2⟩ := h
 rw [run_lookup (t := 174) (kt := 9) (e := 3) (u := u) (i := Tryz.t3) (by kernel_rfl) (by kernel_rfl) (by kernel_rfl) rfl h1 false]
 show Result.ok ((mget m u).getD (.int .i64 0)) w = _
 rw [h2, cval]
 split
 ·rename_i h; rw [h]; rfl
 ·rfl
theorem IM.put {w : World} {b : Nat} {l : List BA} (h : IM w b l) (u : BA) (hl : l.length <= 4194304) : ∃ w', (Instr.mapUpdate 174 (.map (some b)) (.string u) (.int .i64 (IntKind.i64.wrap ((cntN u l : Int) + 1)))).run Tryz.prog w = .ok () w' /\ IM w' b (l ++ [u]) /\ Ext (fun k => k = b) w w' := by
 obtain ⟨m, h1, h2⟩ := h
 have hc := cntN_len u l
 rw [wrap_lt (by omega) (by omega)]
 obtain ⟨w5, r5, hs5, x5⟩ := run_update (t := 174) (kt := 9) (e := 3) (u := u) (v := .int .i64 ((cntN u l : Int) + 1)) (by kernel_rfl) (by kernel_rfl) h1
 refine ⟨w5, r5, ⟨_, hs5, fun k => ?_⟩, x5⟩
 rw [mget_mput, cntN_snoc]
 by_cases hk : k = u
 ·subst hk
  rw [if_pos rfl, if_pos rfl, cval, if_neg (by omega)]
  rfl
 ·rw [if_neg hk, if_neg (Ne.symm hk), h2]
  rfl
def badVars : Ev -> Prop
 | .op o => ¬ (o.vars.map VarD.name).Nodup
 | _ => False
abbrev StVars (ae cnt : Nat) (l : List Ev) (w : World) : Prop := Cnt ae cnt (l.length * 4194304) (∃ e ∈ l, badVars e) w
theorem ex_snoc' {α : Type} {P : α -> Prop} {l : List α} {x : α} : (∃ e ∈ l ++ [x], P e) ↔ (∃ e ∈ l, P e) ∨ P x := by
 constructor
 ·rintro ⟨e, he, h⟩
  rcases List.mem_append.1 he with he | he
  ·exact .inl ⟨e, he, h⟩
  ·obtain rfl : e = x := by simpa using he
   exact .inr h
 ·rintro (⟨e, he, h⟩ | h)
  ·exact ⟨e, by simp [he], h⟩
  ·exact ⟨x, by simp, h⟩
theorem c_UVars_1 {c : WCtx} {ae cnt : Nat} {l : List Ev} {w : World} {co : OA} {vm : Nat} {evs : List Value} {node : Value} {ev : Ev} (hVM : ∀ b, (b = cnt ∨ b = ae) -> ¬ c.M b) (hne : ae ≠ cnt) (hc : StVars ae cnt l w) (hw : Wst c co vm evs w) (hk : isOp ev = true) (hn : evNode c w node ev) :
  CP 77 #[.pointer (some (adr c.wb)), node, .pointer (some (adr ae))] w fun e w' => e = .returned (.tuple #[]) /\ Ext (fun b => b = cnt ∨ b = ae) w w' /\ StVars ae cnt (l ++ [ev]) w' := by
 cases ev with
 | frag f => cases hk
 | spread n f => cases hk
 | op o =>
  obtain ⟨b, rfl, hp, ho⟩ := hn
  obtain ⟨A1, L1, C1, A2, L2, C2, A3, L3, C3, pos, hM, hB, hvars, -⟩ := hp
  have e1 := hvars.1
  have hL1 := hvars.2.2.1
  have hlt : cnt < w.heap.size /\ ae < w.heap.size := ⟨hc.2.choose_spec.1.lt, hc.1.lt⟩
  refine q_rules_UniqueVariableNamesRule_1 (some (adr c.wb)) (some (adr b)) (adr ae) w _ ?_
  intro w4
  have x4 : Ext (fun _ => False) w w4 := (Ext.refl w).alloc _
  have m4 : IM w4 w.heap.size [] := ⟨[], SMap.made w, fun k => rfl⟩
  have z4 : w.heap.size < w4.heap.size := (SMap.made w).lt
  clear_value w4
  have hwk : ∀ {w' : World}, Ext (fun b => b = cnt ∨ b = ae) w w' -> Wk c c.w0 w' := fun x => hw.wk.trans (Wk.ofExt x fun b hM hV => hVM b hV hM)
  refine ⟨adr b, rfl, A1, L1, C1, (hwk (x4.toM _)).nd hM hB (j := 3) rfl rfl, ?_⟩
  refine ⟨fun i w1 => 0 <= i /\ i <= L1 /\ Ext (fun b => b = cnt ∨ b = ae) w w1 /\ Cnt ae cnt (l.length * 4194304 + i.toNat) ((∃ e ∈ l, badVars e) ∨ ¬ ((o.vars.take i.toNat).map VarD.name).Nodup) w1 /\ IM w1 w.heap.size ((o.vars.take i.toNat).map VarD.name), fun i _ => ((L1 : Int) - i).toNat,
   ⟨by omega, by omega, x4.toM _, Cnt.skip (hc.ext x4 id id) (by omega) (by simp), by simpa using m4⟩, ?_⟩
  rintro i w10 ⟨h0, hi, x10, c10, m10⟩
  refine ⟨fun hlt' => ?_, fun hge => ?_⟩
  ·have hlt' := of_decide_eq_true hlt'
   obtain ⟨p, y, v, hpp, hx, hcell, vb, rfl, hpv⟩ := hvars.wget (hwk x10) (fun _ => rfl) h0 hlt'
   obtain ⟨tb, qd, Av, Lv, Cv, posv, hMv, hBv, -⟩ := hpv
   refine ⟨p, hpp, ⟨h0, hlt'⟩, _, hcell, fun K13 hK13 => ?_⟩
   have nm : ∀ w', Ext (fun b => b = cnt ∨ b = ae) w w' -> w'.cell? ⟨vb, 1, none⟩ = some (.string y.name) := fun w' x => (hwk x).nd hMv hBv (j := 1) rfl rfl
   have key : ∀ w', Ext (fun b => b = cnt ∨ b = ae) w w' -> Cnt ae cnt (l.length * 4194304 + (i.toNat + 1)) ((∃ e ∈ l, badVars e) ∨ ¬ ((o.vars.take i.toNat).map VarD.name ++ [y.name]).Nodup) w' -> IM w' w.heap.size ((o.vars.take i.toNat).map VarD.name) -> K13 w' := by
    intro w' x' c' m'
    obtain ⟨w18, r18, m18, x18⟩ := m'.put y.name (by rw [List.length_map, List.length_take]; omega)
    refine hK13 w' ⟨adr vb, rfl, y.name, nm w' x', _, m'.look y.name, w18, r18, trivial, ?_⟩
    rw [wrap_lt h0 (by omega)]
    have hx18 := x'.size
    refine next h0 hlt' ⟨x'.trans x18 fun b hb e => by
     have : b = w.heap.size := e
     omega, ?_, ?_⟩
    ·rw [take_snoc h0 hx, List.map_append, show (i + 1).toNat = i.toNat + 1 by omega]
     exact c'.ext x18 (by show ¬ ae = w.heap.size; omega) (by show ¬ cnt = w.heap.size; omega)
    ·rw [take_snoc h0 hx, List.map_append]
     exact m18
   refine ⟨adr vb, rfl, y.name, nm w10 x10, _, m10.look y.name, fun h1 => ?_, fun h1 => key w10 x10 (Cnt.skip c10 (by omega) ?_) m10⟩
   ·intro w22 e22
    have d22 : Ext (fun _ => False) w10 w22 := by rw [e22]; exact (Ext.refl w10).drew
    have x22 : Ext (fun b => b = cnt ∨ b = ae) w w22 := x10.trans d22 fun _ _ e => e.elim
    have c22 := c10.ext d22 id id
    have a22 := (hwk x22).at (a := ⟨vb, 5, none⟩) hMv (hBv.at (j := 5) rfl) rfl
    refine ⟨_, (c22.1.at (j := 0) rfl).cell, adr vb, rfl, y.name, nm w22 x22, adr vb, rfl, posv, a22.cell, trivial, ?_⟩
    refine tell c22 a22 hne ((Ext.refl w22).alloc _) rfl fun w' x' c' => key w' (x22.trans x' fun _ _ e => e) (Cnt.skip c' (by omega) ?_) ((m10.ext d22 id).ext x' fun e => ?_)
    ·refine ⟨fun _ => .inr ?_, fun _ => trivial⟩
     rw [nodup_snoc]
     intro h
     have hin : 0 < cntN y.name ((o.vars.take i.toNat).map VarD.name) := by
      have : (cntN y.name ((o.vars.take i.toNat).map VarD.name) : Int) = 1 := by simpa using h1
      omega
     exact h.2 (cntN_pos.1 hin)
    ·rcases e with e | e <;> omega
   ·have h1' : cntN y.name ((o.vars.take i.toNat).map VarD.name) ≠ 1 := by
     intro e
     rw [e] at h1
     simp at h1
    rw [nodup_snoc]
    constructor
    ·rintro (h | h)
     ·exact .inl h
     ·exact .inr fun k => h k.1
    ·rintro (h | h)
     ·exact .inl h
     ·by_cases hnd : ((o.vars.take i.toNat).map VarD.name).Nodup
      ·have := cntN_nodup (k := y.name) hnd
       exact absurd ⟨hnd, fun hm => by have := cntN_pos.2 hm; omega⟩ h
      ·exact .inr hnd
  ·have hle := of_decide_eq_false hge
   have : l.length * 4194304 + i.toNat <= (l ++ [Ev.op o]).length * 4194304 := by
    rw [List.length_append, List.length_cons, List.length_nil]
    omega
   rw [List.take_of_length_le (by omega)] at c10
   exact ⟨rfl, x10, Cnt.skip c10 this (ex_snoc' (P := badVars) (l := l) (x := Ev.op o)).symm⟩
theorem varsRule (ops : List OpD) (frags : List Frag) (h12 : ops.length <= 12) : RuleOK 44 ops frags fun n => 0 <= n /\ (n > 0 ↔ ∃ x ∈ ops, ¬ (x.vars.map VarD.name).Nodup) := by
 refine ⟨⟨_, Tryz.func44, by kernel_rfl⟩, ?_⟩
 intro c cnt hops hfrags hb hB hcnt hne hMc hMe
 subst hops
 have x3 : Ext (fun _ => False) c.w0 (c.w0.alloc (.cells #[.func (.func 61) #[] #[.pointer (some (adr cnt))]] 122)) := (Ext.refl c.w0).alloc _
 have Bae := Blk.made c.w0 122 [.func (.func 61) #[] #[.pointer (some (adr cnt))]]
 refine q_rules_UniqueVariableNamesRule (some (adr c.eb)) _ c.w0 _ ⟨⟨rfl, trivial⟩, ?_⟩
 have hlc := hcnt.lt
 have hle := hB.lt
 generalize hw3 : c.w0.alloc (.cells #[.func (.func 61) #[] #[.pointer (some (adr cnt))]] 122) = w3
 replace x3 : Ext (fun _ => False) c.w0 w3 := by rw [<- hw3]; exact x3
 replace Bae : Blk w3 c.w0.heap.size 122 [.func (.func 61) #[] #[.pointer (some (adr cnt))]] := by rw [<- hw3]; exact Bae
 clear hw3
 have hla := Bae.lt
 refine (c_core_Events_OnOperation (f := .func (.func 77) #[] #[.pointer (some (adr c.w0.heap.size))]) rfl (hB.ext x3 id)).mono ?_
 rintro _ w5 ⟨rfl, p, C, B5, ap, hpb, x5⟩
 have y5 : Ext (fun b => b = c.eb) c.w0 w5 := (x3.toM _).trans x5 fun _ _ e => e
 have hz5 := x5.size
 have hz3 := x3.size
 have hae : c.w0.heap.size ≠ cnt := by omega
 have Bae5 := Bae.ext x5 (by show ¬ c.w0.heap.size = c.eb; omega)
 have Bc5 := hcnt.ext y5 hne
 refine ⟨rfl, trivial, rfl, y5, fun b => b = cnt ∨ b = c.w0.heap.size, StVars c.w0.heap.size cnt, ⟨some p, 1, C, true, none, 0, 0, false, none, 0, 0, false⟩, ?_, fun b hb' => ?_, fun b hb' T cs fr ho => ?_, fun l w'' hl ht => ?_⟩
 ·have hVM : ∀ b, (b = cnt ∨ b = c.w0.heap.size) -> ¬ c.M b := fun b hV hM => by
   have := hb.m b hM
   rcases hV with rfl | rfl
   ·exact hMc hM
   ·omega
  refine rule_one hb hMe y5 (fun b hb' => hb'.imp id fun e => by omega) hlc hne hMc hle (fun l w w'' h hx => Cnt.ext h hx (fun e => e (.inr rfl)) fun e => e (.inl rfl)) (Cnt.zero Bae5 Bc5 (by simp)) B5 fun b5 wb fm fl => ⟨vis_one (cap := [.pointer (some (adr c.w0.heap.size))]) ap (fun h => ?_) (fun h => ?_) Tryz.func77 (by kernel_rfl) fun l w1 co vm evs node ev hl hw hk hn => c_UVars_1 hVM hae hl hw hk hn, .inl ⟨rfl, rfl⟩, .inl ⟨rfl, rfl⟩⟩
  ·have : p.block < c.w0.heap.size := hb.m _ h
   omega
  ·have : p.block = cnt ∨ p.block = c.w0.heap.size := h
   omega
 ·rcases hb' with rfl | rfl
  ·exact .inr (Nat.le_refl _)
  ·exact .inr (by omega)
 ·rcases hb' with rfl | rfl
  ·rw [Bc5.type ho]; decide
  ·rw [Bae5.type ho]; decide
 ·obtain ⟨-, n, hn, hk⟩ := hl
  have hl : l = c.ops.map Ev.op := by
   rw [ht.exact rfl]
   have h1 : ∀ xs : List OpD, (xs.flatMap fun x => em true (.op x)) = xs.map Ev.op := fun xs => by
    induction xs with
    | nil => rfl
    | cons x xs ih => rw [List.flatMap_cons, ih]; rfl
   have h2 : ∀ xs : List Frag, (xs.flatMap fun x => em false (.frag x)) = [] := fun xs => by simp [em]
   rw [h1, h2, List.append_nil]
  obtain ⟨k1, k2, k3⟩ := hk (by rw [hl]; simp; omega)
  refine ⟨n, hn, k1, k3.trans ?_⟩
  rw [hl]
  constructor
  ·rintro ⟨e, he, hb'⟩
   obtain ⟨x, hx, rfl⟩ := List.mem_map.1 he
   exact ⟨x, hx, hb'⟩
  ·rintro ⟨x, hx, hb'⟩
   exact ⟨_, List.mem_map.2 ⟨x, hx, rfl⟩, hb'⟩
end Go.VC
namespace Go.VC
open Go Go.Proofs
variable [DB]
theorem c_VarsTwice {a : OA} {l c : Nat} {a' : OA} {l' c' : Nat} {ops : List OpD} {frags : List Frag} {w : World} (hl : ROps w a l c ops) (hl' : RFrags w a' l' c' frags) :
  CP 24 #[.agg #[.slice a l c, .slice a' l' c']] w (RetB w fun b => b = true ↔ ∃ x ∈ ops, ¬ (nz (x.vars.map VarD.name)).Nodup) := by
 obtain ⟨e1, e3⟩ := hl.len
 have hx0 := (Ext.refl (X := fun _ => False) w).alloc (.cells #[.slice a l c, .slice a' l' c'] 30)
 refine q_VarsTwice a l c a' l' c' w _ ⟨trivial, ?_⟩
 refine ⟨fun i w1 => 0 <= i /\ i <= l /\ Ext (fun _ => False) w w1 /\ ∀ x ∈ ops.take i.toNat, (nz (x.vars.map VarD.name)).Nodup, fun i _ => ((l : Int) - i).toNat, ⟨by omega, by omega, hx0, by simp⟩, ?_⟩
 rintro i w1 ⟨h0, hi, hx, hn⟩
 refine ⟨fun hlt => ?_, fun hge => ?_⟩
 ·have hlt := of_decide_eq_true hlt
  obtain ⟨p, x, hp, hxs, cs, hc, a1, l1, c1, a2, l2, c2, a3, l3, c3, rfl, hv1, hv2, hv3⟩ := hl.get h0 hlt
  obtain ⟨⟨_, _, hc0⟩, hs0, ⟨_, _, hc1⟩, hs1, ⟨_, _, hc2⟩, hs2, ⟨_, _, hc3⟩, hs3, ⟨_, _, hc4⟩, -⟩ := hc
  refine ⟨p, hp, ⟨h0, hlt⟩, _, hx.cell hc0 id, _, hx.cell hc1 id, _, _, _, hx.cell hc2 id, _, _, _, hx.cell hc3 id, _, _, _, hx.cell hc4 id, trivial, trivial, ?_⟩
  have hx15 := hx.alloc (.cells #[.string x.kind, .string x.name, .slice a1 l1 c1, .slice a2 l2 c2, .slice a3 l3 c3] 51)
  obtain ⟨v1, v3⟩ := hv1.len
  refine ⟨fun A L C j w2 => 0 <= j /\ j <= l1 /\ Ext (fun _ => False) w w2 /\ L = j.toNat /\ ∃ cells, Own w.heap.size w2 9 1 A L C cells /\ Flat 1 RS ((x.vars.take j.toNat).map VarD.name) cells, fun _ _ _ j _ => ((l1 : Int) - j).toNat, ⟨by omega, by omega, hx15, rfl, [], Own.nil .., .nil⟩, ?_⟩
  rintro A L C j w2 ⟨k0, kj, kx, hL, cells, hown, hf⟩
  refine ⟨fun klt => ?_, fun kge => ?_⟩
  ·have klt := of_decide_eq_true klt
   obtain ⟨q, y, hq, hys, cs, hd, n, b1, m1, d1, nn, b2, m2, d2, b3, m3, d3, rfl, hu1, hu2, hu3⟩ := hv1.get k0 klt
   obtain ⟨⟨_, _, hd0⟩, ht0, ⟨_, _, hd1⟩, ht1, ⟨_, _, hd2⟩, ht2, ⟨_, _, hd3⟩, ht3, ⟨_, _, hd4⟩, ht4, ⟨_, _, hd5⟩, -⟩ := hd
   refine ⟨q, hq, ⟨k0, klt⟩, _, kx.cell hd0 id, _, kx.cell hd1 id, _, _, _, kx.cell hd2 id, _, kx.cell hd3 id, _, _, _, kx.cell hd4 id, _, _, _, kx.cell hd5 id, trivial, trivial, trivial, ?_⟩
   have hx29 : Ext (fun _ => False) w2 (w2.alloc (.cells #[.string y.name, .string n, .slice b1 m1 d1, .bool nn, .slice b2 m2 d2, .slice b3 m3 d3] 59)) := (Ext.refl w2).alloc _
   obtain ⟨A2, C2, w32, r1, ⟨cells2, o2, f2⟩, x2, k2⟩ := append_str (hown.keep hx29 fun _ _ => id) (Nat.le_trans kx.size hx29.size) hf (s := y.name) ht0 (by omega)
   have hx32 : Ext (fun _ => False) w w32 := (kx.then hx29).trans x2 fun b hb hbl => by
    have := ((hown.keep hx29 fun _ _ => id).base b hbl).1
    omega
   refine ⟨A2, L + 1, C2, w32, r1, ⟨k2 30 (by decide), k2 51 (by decide), k2 59 (by decide), trivial⟩, ?_⟩
   rw [wrap_lt k0 (by omega)]
   refine next k0 klt ⟨hx32, by omega, cells2, o2, ?_⟩
   rw [take_snoc k0 hys]
   simpa using f2
  ·have kle := of_decide_eq_false kge
   rw [List.take_of_length_le (by omega)] at hf
   have hall : RStrs w2 A L C _ := hown.sl hf (by omega) (by omega)
   refine (c_twice hall).mono ?_
   rintro _ w' ⟨b, rfl, hx', hb⟩
   refine ⟨b, rfl, ⟨hx'.keepT _, hx'.keepT _, trivial⟩, fun hbt => ⟨true, rfl, kx.then hx', fun _ => ⟨x, List.mem_of_getElem? hxs, hb.1 hbt⟩, fun _ => rfl⟩, fun hbf => ?_⟩
   rw [wrap_lt h0 (by omega)]
   refine next h0 hlt ⟨kx.then hx', take_all_int h0 hn hxs (Classical.byContradiction fun hno => ?_)⟩
   rw [hb.2 hno] at hbf
   cases hbf
 ·have hle := of_decide_eq_false hge
  rw [List.take_of_length_le (by omega)] at hn
  exact ⟨false, rfl, hx, nofun, fun ⟨x, hx, h⟩ => absurd (hn x hx) h⟩
end Go.VC
namespace Go.VC
open Go Go.Proofs
variable [DB]
theorem c_impl_RUniqueVariableNames {P : Int -> Prop} {wd : WorldD} {a1 : OA} {l1 c1 : Nat} {a2 : OA} {l2 c2 : Nat} {a6 : OA} {l6 c6 : Nat} {a7 : OA} {l7 c7 : Nat} {q8 : OA} {q8l q8c : Nat} {q9 : OA} {q9l q9c : Nat} {ops : List OpD} {frags : List Frag} {w : World}
  (hw : RWorld w wd [.slice a1 l1 c1, .slice a2 l2 c2, .string wd.query, .string wd.mutation, .string wd.subscription, .slice a6 l6 c6, .slice a7 l7 c7]) (ok3 : ∀ x ∈ wd.dirs, ∀ y ∈ x.args, okArgDef y) (ok4 : ∀ x ∈ wd.types, okDef x)
  (few6 : (pushD wd.types wd.possible).length <= 4194304) (few7 : (pushD wd.types wd.implements).length <= 4194304) (hl1 : ROps w q8 q8l q8c ops) (hl2 : RFrags w q9 q9l q9c frags) (ok1 : ∀ x ∈ ops, okOp x) (ok2 : ∀ x ∈ frags, okFrag x) (hr : RuleOK 44 ops frags P) (hB0 : DB.B <= w.heap.size) :
  CP 23 #[.agg #[.slice a1 l1 c1, .slice a2 l2 c2, .string wd.query, .string wd.mutation, .string wd.subscription, .slice a6 l6 c6, .slice a7 l7 c7], .agg #[.slice q8 q8l q8c, .slice q9 q9l q9c]] w fun e w' =>
   ∃ n, e = .returned (.tuple #[.int .i64 n, .bool true]) /\ P n /\ Ext (fun _ => False) w w' := by
 have x11 : Ext (fun _ => False) w (w.alloc (.cells #[.slice a1 l1 c1, .slice a2 l2 c2, .string wd.query, .string wd.mutation, .string wd.subscription, .slice a6 l6 c6, .slice a7 l7 c7] 40)) := (Ext.refl w).alloc _
 have x12 := x11.alloc (.cells #[.slice q8 q8l q8c, .slice q9 q9l q9c] 30)
 refine q_impl_RUniqueVariableNames a1 l1 c1 a2 l2 c2 wd.query wd.mutation wd.subscription a6 l6 c6 a7 l7 c7 q8 q8l q8c q9 q9l q9c w _ ⟨trivial, trivial, ?_⟩
 refine (c_impl_found (RWorld.keep x12.keep hw) ok3 ok4 few6 few7 (hl1.keep x12.keep) (hl2.keep x12.keep) ok1 ok2 hr (Nat.le_trans hB0 x12.size)).mono ?_
 rintro _ w' ⟨n, rfl, hp, hx⟩
 exact ⟨n, true, rfl, ⟨hx.keepT _, hx.keepT _, trivial⟩, n, rfl, hp, x12.then hx⟩
theorem c_law_FnRuleVars {S : List OpD -> List Frag -> Prop} (rule : ∀ ops frags, ops.length <= 12 -> frags.length <= 12 -> (∀ x ∈ ops, okOp x) -> (∀ x ∈ frags, okFrag x) -> spTot ops frags <= 2097152 -> True -> RuleOK 44 ops frags fun n => 0 <= n /\ (n > 0 ↔ S ops frags))
  (spec : ∀ {a : OA} {l c : Nat} {a' : OA} {l' c' : Nat} {ops : List OpD} {frags : List Frag} {w : World}, ROps w a l c ops -> RFrags w a' l' c' frags -> ops.length <= 12 -> frags.length <= 12 -> (∀ x ∈ ops, okOp x) -> (∀ x ∈ frags, okFrag x) -> spTot ops frags <= 2097152 -> True -> CP 24 #[.agg #[.slice a l c, .slice a' l' c']] w (RetB w fun b => b = true ↔ S ops frags))
  {d1 : OA} {d1l d1c : Nat} {d2 : OA} {d2l d2c : Nat} {d3 : OA} {d3l d3c : Nat} {d4 : OA} {d4l d4c : Nat} {d5 : OA} {d5l d5c : Nat} {q6 : OA} {q6l q6c : Nat} {q7 : OA} {q7l q7c : Nat} {defs exts : List SchemaDef} {dirs : List DirDef} {types texts : List Def} {ops : List OpD} {frags : List Frag} {w : World}
  (h1 : RSchemaDefs w d1 d1l d1c defs) (h2 : RSchemaDefs w d2 d2l d2c exts) (h3 : RDirDefs w d3 d3l d3c dirs) (h4 : RDefs w d4 d4l d4c types) (h5 : RDefs w d5 d5l d5c texts) (hs : d1l + d2l <= 4194304) (hsp : spTot ops frags <= 2097152) (h6 : ROps w q6 q6l q6c ops) (h7 : RFrags w q7 q7l q7c frags) (hB0 : DB.B <= w.heap.size) :
  CP 7 #[.agg #[.slice d1 d1l d1c, .slice d2 d2l d2c, .slice d3 d3l d3c, .slice d4 d4l d4c, .slice d5 d5l d5c], .agg #[.slice q6 q6l q6c, .slice q7 q7l q7c]] w fun e w' => e = .returned (.bool true) /\ Ext (fun _ => False) w w' := by
 have x8 : Ext (fun _ => False) w (w.alloc (.cells #[.slice d1 d1l d1c, .slice d2 d2l d2c, .slice d3 d3l d3c, .slice d4 d4l d4c, .slice d5 d5l d5c] 26)) := (Ext.refl w).alloc _
 have x9 := x8.alloc (.cells #[.slice q6 q6l q6c, .slice q7 q7l q7c] 30)
 refine q_laws_FnRuleVars d1 d1l d1c d2 d2l d2c d3 d3l d3c d4 d4l d4c d5 d5l d5c q6 q6l q6c q7 q7l q7c w _ ⟨trivial, trivial, fun K10 hK10 => ?_⟩
 have key10 : ∀ b w', Ext (fun _ => False) w w' -> K10 b w' := by
  intro b w' xw
  refine hK10 b w' ⟨fun _ => ⟨rfl, xw⟩, fun _ => ?_⟩
  refine (c_Build (h1.keep xw.keep) (h2.keep xw.keep) (h3.keep xw.keep) (h4.keep xw.keep) (h5.keep xw.keep) hs (Nat.le_trans hB0 xw.size)).mono ?_
  rintro _ w14 ⟨q15, b16, rfl, x14, hok⟩
  refine ⟨q15, b16, rfl, ⟨x14.keepT _, x14.keepT _, trivial⟩, fun K17 hK17 => ?_⟩
  have y14 := xw.then x14
  have key17 : ∀ b w', Ext (fun _ => False) w14 w' -> (b = false -> b16 = true /\ ops.length <= 12 /\ frags.length <= 12 /\ (∀ x ∈ ops, okOp x) /\ (∀ x ∈ frags, okFrag x) /\ True) -> K17 b w' := by
   intro b w19 x19 hb
   have y19 := y14.then x19
   refine hK17 b w19 ⟨fun _ => ⟨rfl, y19⟩, fun hbf => ?_⟩
   obtain ⟨hb16, n1, n2, ok1, ok2, nl⟩ := hb hbf
   obtain ⟨k, rfl, A, L, C, hB, hR, hO⟩ := hok hb16
   intro w20 e20
   have x20 : Ext (fun _ => False) w19 w20 := by rw [e20]; exact (Ext.refl w19).drew
   have y20 := y19.then x20
   have z20 := x19.then x20
   refine (c_World_Wide (hB.ext z20 id) (h4.keep y20.keep) (hR.keep z20.keep) (h3.keep y20.keep) hO.few.1 (fun t ht => by have := hO.small t ht; omega) hO.few.2 (Nat.le_trans hB0 y20.size)).mono ?_
   rintro _ w22 ⟨cs, rfl, hW, x22⟩
   obtain ⟨ok3, ok4, few6, few7⟩ := wide_ok hO
   have hW' := hW
   obtain ⟨a1, l1, c1, a2, l2, c2, a6, l6, c6, a7, l7, c7, rfl, -⟩ := hW'
   have y22 := y20.then x22
   refine ⟨a1, l1, c1, a2, l2, c2, _, _, _, a6, l6, c6, a7, l7, c7, rfl, ⟨x22.keepT _, x22.keepT _, trivial⟩, ⟨rfl, trivial⟩, ?_⟩
   refine (c_impl_RUniqueVariableNames hW ok3 ok4 few6 few7 (h6.keep y22.keep) (h7.keep y22.keep) ok1 ok2 (rule ops frags n1 n2 ok1 ok2 hsp nl) (Nat.le_trans hB0 y22.size)).mono ?_
   rintro _ w31 ⟨n, rfl, ⟨hn0, hn⟩, x31⟩
   have y31 := y22.then x31
   refine ⟨n, true, rfl, ⟨x31.keepT _, x31.keepT _, trivial⟩, trivial, trivial, trivial, ?_⟩
   refine (spec (h6.keep y31.keep) (h7.keep y31.keep) n1 n2 ok1 ok2 hsp nl).mono ?_
   rintro _ w35 ⟨b36, rfl, x35, hb36⟩
   have y35 := y31.then x35
   refine ⟨b36, rfl, ⟨x35.keepT _, x35.keepT _, trivial⟩, ?_⟩
   refine (c_laws_told n true b36 w35).mono ?_
   rintro _ w38 ⟨rfl, rfl⟩
   refine ⟨_, rfl, ⟨(Ext.refl _).keepT _, (Ext.refl _).keepT _, trivial⟩, ?_, y35⟩
   rw [told_true hn0 (hn.trans hb36.symm)]
  refine ⟨fun hb => ?_, fun hb => key17 true w14 (Ext.refl w14) nofun⟩
  refine (c_Small (h6.keep y14.keep) (h7.keep y14.keep)).mono ?_
  rintro _ w41 ⟨b42, rfl, x41, hsm⟩
  refine ⟨b42, rfl, ⟨x41.keepT _, x41.keepT _, trivial⟩, key17 _ w41 x41 fun h => ⟨by simpa using hb, (hsm (by simpa using h)).1, (hsm (by simpa using h)).2.1, (hsm (by simpa using h)).2.2.1, (hsm (by simpa using h)).2.2.2, trivial⟩⟩
 refine (c_laws_zzFits20 d1 d1l d1c d2 d2l d2c d3 d3l d3c d4 d4l d4c d5 d5l d5c _).mono ?_
 rintro _ w44 ⟨b45, rfl, x44, -⟩
 have y44 := x9.then x44
 refine ⟨b45, rfl, ⟨x44.keepT _, x44.keepT _, trivial⟩, fun _ => ?_, fun _ => key10 true w44 y44⟩
 refine (c_laws_zzFits21 q6 q6l q6c q7 q7l q7c _).mono ?_
 rintro _ w47 ⟨b48, rfl, x47, -⟩
 exact ⟨b48, rfl, ⟨x47.keepT _, x47.keepT _, trivial⟩, key10 _ w47 (y44.then x47)⟩
theorem c_FnRuleVars {d1 : OA} {d1l d1c : Nat} {d2 : OA} {d2l d2c : Nat} {d3 : OA} {d3l d3c : Nat} {d4 : OA} {d4l d4c : Nat} {d5 : OA} {d5l d5c : Nat} {q6 : OA} {q6l q6c : Nat} {q7 : OA} {q7l q7c : Nat} {defs exts : List SchemaDef} {dirs : List DirDef} {types texts : List Def} {ops : List OpD} {frags : List Frag} {w : World}
  (h1 : RSchemaDefs w d1 d1l d1c defs) (h2 : RSchemaDefs w d2 d2l d2c exts) (h3 : RDirDefs w d3 d3l d3c dirs) (h4 : RDefs w d4 d4l d4c types) (h5 : RDefs w d5 d5l d5c texts) (hs : d1l + d2l <= 4194304) (hsp : spTot ops frags <= 2097152) (h6 : ROps w q6 q6l q6c ops) (h7 : RFrags w q7 q7l q7c frags) (hB0 : DB.B <= w.heap.size) :
  CP 7 #[.agg #[.slice d1 d1l d1c, .slice d2 d2l d2c, .slice d3 d3l d3c, .slice d4 d4l d4c, .slice d5 d5l d5c], .agg #[.slice q6 q6l q6c, .slice q7 q7l q7c]] w fun e w' => e = .returned (.bool true) /\ Ext (fun _ => False) w w' :=
 c_law_FnRuleVars (S := fun ops _ => ∃ x ∈ ops, ¬ (x.vars.map VarD.name).Nodup) (fun ops frags h _ _ _ _ _ => varsRule ops frags h) (fun h h' _ _ ok1 _ _ _ => by
  refine (c_VarsTwice h h').mono ?_
  rintro _ w' ⟨b, rfl, hx, hb⟩
  refine ⟨b, rfl, hx, hb.trans ⟨fun ⟨x, hm, hd⟩ => ⟨x, hm, ?_⟩, fun ⟨x, hm, hd⟩ => ⟨x, hm, ?_⟩⟩⟩ <;> have hnz := nz_all (l := x.vars.map VarD.name) (fun s hs => by obtain ⟨y, hy, rfl⟩ := List.mem_map.1 hs; exact ((ok1 x hm).2.1 y hy).2.2.2)
  ·rwa [hnz] at hd
  ·rwa [hnz]) h1 h2 h3 h4 h5 hs hsp h6 h7 hB0
end Go.VC
