/- Part of the proof of a law of a rule over documents (LawA), where what the arguments hold is of bulk at most 1048576. -/
import Derived.Test.YtgckkmmljfioaaaGreatWalkD
import Derived.Test.YtgckkmmljfioaaaGreatWideB
set_option linter.unusedVariables false
set_option linter.unusedSimpArgs false
set_option linter.unusedSectionVars false
set_option linter.deprecated false
namespace Go.VC
open Go Go.Proofs
variable [DB]
theorem c_laws_zzFits20 (d1 : OA) (d1l d1c : Nat) (d2 : OA) (d2l d2c : Nat) (d3 : OA) (d3l d3c : Nat) (d4 : OA) (d4l d4c : Nat) (d5 : OA) (d5l d5c : Nat) (w : World) :
  CP 8 #[.agg #[.slice d1 d1l d1c, .slice d2 d2l d2c, .slice d3 d3l d3c, .slice d4 d4l d4c, .slice d5 d5l d5c]] w (RetB w fun _ => True) := by
 have x := (Ext.refl (X := fun _ => False) w).alloc (.cells #[.slice d1 d1l d1c, .slice d2 d2l d2c, .slice d3 d3l d3c, .slice d4 d4l d4c, .slice d5 d5l d5c] 26)
 refine q_laws_zzFits20 d1 d1l d1c d2 d2l d2c d3 d3l d3c d4 d4l d4c d5 d5l d5c w _ ⟨trivial, ?_⟩
 have f : ∀ b : Bool, RetB w (fun _ => True) (.returned (.bool b)) (w.alloc (.cells #[.slice d1 d1l d1c, .slice d2 d2l d2c, .slice d3 d3l d3c, .slice d4 d4l d4c, .slice d5 d5l d5c] 26)) := fun b => ⟨b, rfl, x, trivial⟩
 exact ⟨fun _ => f _, fun _ => ⟨fun _ => f _, fun _ => ⟨fun _ => f _, fun _ => ⟨fun _ => f _, fun _ => ⟨fun _ => f _, fun _ => f _⟩⟩⟩⟩⟩
theorem c_laws_zzFits21 (d1 : OA) (d1l d1c : Nat) (d2 : OA) (d2l d2c : Nat) (w : World) :
  CP 9 #[.agg #[.slice d1 d1l d1c, .slice d2 d2l d2c]] w (RetB w fun _ => True) := by
 have x := (Ext.refl (X := fun _ => False) w).alloc (.cells #[.slice d1 d1l d1c, .slice d2 d2l d2c] 30)
 refine q_laws_zzFits21 d1 d1l d1c d2 d2l d2c w _ ⟨trivial, ?_⟩
 have f : ∀ b : Bool, RetB w (fun _ => True) (.returned (.bool b)) (w.alloc (.cells #[.slice d1 d1l d1c, .slice d2 d2l d2c] 30)) := fun b => ⟨b, rfl, x, trivial⟩
 exact ⟨fun _ => f _, fun _ => ⟨fun _ => f _, fun _ => f _⟩⟩
def toldB (n : Int) (ok want : Bool) : Bool := if ok = true then (if n >= 0 then (decide (n > 0) == want) else false) else false
theorem c_laws_told (n : Int) (ok want : Bool) (w : World) : CP 14 #[.int .i64 n, .bool ok, .bool want] w fun e w' => e = .returned (.bool (toldB n ok want)) /\ w' = w := by
 refine q_laws_told n ok want w _ fun K4 hK4 => ⟨fun ho => ⟨fun hn => hK4 _ w ⟨?_, rfl⟩, fun hn => hK4 _ w ⟨?_, rfl⟩⟩, fun ho => hK4 _ w ⟨?_, rfl⟩⟩
 ·rw [toldB, if_pos ho, if_pos (of_decide_eq_true hn)]
 ·rw [toldB, if_pos ho, if_neg (of_decide_eq_false hn)]
 ·rw [toldB, ho]; rfl
theorem told_true {n : Int} {b : Bool} (h0 : 0 <= n) (h : n > 0 ↔ b = true) : toldB n true b = true := by
 rw [toldB, if_pos rfl, if_pos h0]
 cases b with
 | true => simpa using h
 | false => simpa using h
theorem flatMap_len {α β : Type} {f : α -> List β} {m : Nat} : ∀ {l : List α}, (∀ x ∈ l, (f x).length <= m) -> (l.flatMap f).length <= l.length * m
 | [], _ => by simp
 | x :: l, h => by
  have h1 := h x (by simp)
  have h2 := flatMap_len (l := l) (f := f) (m := m) fun y hy => h y (by simp [hy])
  rw [List.flatMap_cons, List.length_append, List.length_cons, Nat.add_mul]
  omega
theorem pushD_le {types : List Def} {l : List Named} {k m : Nat} (h1 : l.length <= k) (h2 : ∀ x ∈ l, x.names.length <= m) (h3 : k * m <= 4194304) : (pushD types l).length <= 4194304 := by
 have := flatMap_len (f := fun x : Named => pushOf types x.name x.names) (m := m) (l := l) fun x hx => Nat.le_trans (List.length_filterMap_le _ _) (h2 x hx)
 have := Nat.mul_le_mul_right m h1
 show (l.flatMap fun x => pushOf types x.name x.names).length <= _
 omega
theorem okArgDef_pre {n t : BA} {b : Bool} (ht : t ≠ E0) : okArgDef ⟨E0, n, .mk t [] b, [], []⟩ := ⟨by simpa [okTyp] using ht, ⟨by simp, fun x hx => by simp at hx⟩, fun x hx => by simp at hx⟩
theorem wide_ok {types : List Def} {dirs : List DirDef} {defs : List SchemaDef} {roots : List RootD} (h : OkSchema types dirs defs) :
  (∀ x ∈ (wideD types dirs roots).dirs, ∀ y ∈ x.args, okArgDef y) /\ (∀ x ∈ (wideD types dirs roots).types, okDef x) /\ (pushD (wideD types dirs roots).types (wideD types dirs roots).possible).length <= 4194304 /\ (pushD (wideD types dirs roots).types (wideD types dirs roots).implements).length <= 4194304 := by
 have hn := h.few.1
 have hposs : ∀ n, (possibleD types n).length <= 30 := fun n => by
  unfold possibleD
  rw [List.length_map]
  exact Nat.le_trans (List.length_filter_le _ _) hn
 refine ⟨fun x hx y hy => ?_, fun x hx => ?_, pushD_le (k := 30) (m := 60) ?_ (fun x hx => ?_) (by omega), pushD_le (k := 30) (m := 60) ?_ (fun x hx => ?_) (by omega)⟩
 ·rcases List.mem_append.1 hx with hx | hx
  ·simp only [preDirs, List.mem_cons, List.not_mem_nil, or_false] at hx
   rcases hx with rfl | rfl | rfl | rfl
   ·obtain rfl : y = argIf := by simpa [dInclude] using hy
    exact okArgDef_pre (by decide)
   ·obtain rfl : y = argIf := by simpa [dSkip] using hy
    exact okArgDef_pre (by decide)
   ·obtain rfl : y = argReason := by simpa [dDepr] using hy
    refine ⟨by simp only [argReason, okTyp]; decide, ⟨by simp [argReason], fun x hx => ?_⟩, fun x hx => by simp [argReason] at hx⟩
    obtain rfl := by simpa [argReason] using hx
    simp [okVal, okKids]
   ·obtain rfl : y = argUrl := by simpa [dSpec] using hy
    exact okArgDef_pre (by decide)
  ·exact h.args x hx y hy
 ·rcases List.mem_append.1 hx with hx | hx
  ·obtain ⟨n, -, rfl⟩ := List.mem_map.1 hx
   exact ⟨.inl rfl, fun x hx => by simp [scalarDef] at hx, fun x hx => by simp [scalarDef] at hx, fun x hx => by simp [scalarDef] at hx⟩
  ·exact h.ok x hx
 ·show (possN types types).length <= 30
  unfold possN
  rw [List.length_map]
  exact Nat.le_trans (List.length_filter_le _ _) hn
 ·obtain ⟨t, -, rfl⟩ := List.mem_map.1 hx
  show (enumeratedD types t.name).length <= 60
  unfold enumeratedD
  rw [List.length_append, List.length_map]
  have h1 := hposs t.name
  have h2 := List.length_filter_le (enumQ types t.name) types
  omega
 ·show (implN types types).length <= 30
  unfold implN
  rw [List.length_map]
  exact Nat.le_trans (List.length_filter_le _ _) hn
 ·obtain ⟨t, -, rfl⟩ := List.mem_map.1 hx
  show (implementedD types t.name).length <= 60
  unfold implementedD
  rw [List.length_append, List.length_map]
  have h2 := List.length_filter_le (implQ t.name) types
  have h1 : (findD types t.name).1.ifaces.length <= 12 := by
   unfold findD
   split
   ·rename_i d hd
    have := h.small d (List.mem_of_find?_eq_some hd)
    show d.ifaces.length <= 12
    omega
   ·split
    ·simp [scalarDef]
    ·simp [noDef]
  omega
end Go.VC
