/- Part of the proof of a law of a rule over documents (WalkA), where what the arguments hold is of bulk at most 1048576. -/
import Derived.Test.YtgckkmmljfioaaaGreatMakeC
import Derived.Test.YtgckkmmljfioaaaGreatTextE
set_option linter.unusedVariables false
set_option linter.unusedSimpArgs false
set_option linter.unusedSectionVars false
set_option linter.deprecated false
namespace Go.VC
open Go Go.Proofs
variable [DB]
def noteIdx (T : TypeId) (j : Nat) : Bool :=
 (T == 308 && (j == 5 || j == 6 || j == 7 || j == 8)) || (T == 270 && (j == 7 || j == 8)) || (T == 133 && (j == 2 || j == 3)) || (T == 273 && j == 3) ||
 (T == 266 && (j == 3 || j == 4 || j == 5)) || (T == 179 && (j == 7 || j == 8)) || (T == 172 && j == 6)
inductive Ev where
 | op (o : OpD) | frag (f : Frag) | spread (n : BA) (found : Bool)
structure WCtx where
 M : Nat -> Prop
 V : Nat -> Prop
 w0 : World
 wb : Nat
 eb : Nat
 sb : Nat
 qb : Nat
 fm : Nat
 m1 : Nat
 m2 : Nat
 tm : List (BA × Value)
 dm : List (BA × Value)
 fl : List (BA × Value)
 types : List Def
 dirs : List DirDef
 ops : List OpD
 frags : List Frag
 St : List Ev -> World -> Prop
def firstN {α : Type} (nm : α -> BA) (l : List α) (k : BA) : Option α := l.find? fun d => decide (nm d = k)
def noteOK (c : WCtx) (b : Nat) (T : TypeId) (j : Nat) (v : Value) : Prop :=
 noteIdx T j = true /\ (T = 308 /\ j = 5 -> ∃ q, v = .pointer q /\ (q = none ∨ ∃ db d, q = some (adr db) /\ PDef c.M c.w0 d db /\ okDef d)) /\
 (T = 308 /\ j = 6 -> ∃ q, v = .pointer q /\ (q = none ∨ ∃ db d, q = some (adr db) /\ PVar c.M c.w0 d db)) /\
 (T = 308 /\ j = 7 -> ∃ q, v = .pointer q /\ (q = none ∨ ∃ tb t, q = some (adr tb) /\ PTyp c.M c.w0 t tb)) /\
 (T = 179 /\ j = 7 -> ∃ q, v = .pointer q /\ (q = none ∨ ∃ db d, q = some (adr db) /\ PDef c.M c.w0 d db /\ okDef d)) /\
 (T = 133 /\ j = 3 -> ∃ q, v = .pointer q /\ ∀ (n : BA) (cs : List Value), Blk c.w0 b 133 (.string n :: cs) -> OptQ (PFrag c.M c.w0) (firstN Frag.name c.frags n) q)
structure Wk (c : WCtx) (w w' : World) : Prop where
 cells : ∀ b cs T fr, c.M b -> objAt w b = some (.cells cs T fr) -> ∃ cs', objAt w' b = some (.cells cs' T fr) /\ cs'.size = cs.size /\ ∀ j v, cs'[j]? = some v -> cs[j]? = some v ∨ noteOK c b T j v
 maps : ∀ b es n, c.M b -> objAt w b = some (.map es n) -> objAt w' b = some (.map es n)
theorem Wk.refl (c : WCtx) (w : World) : Wk c w w := ⟨fun b cs T fr _ h => ⟨cs, h, rfl, fun j v hj => .inl hj⟩, fun _ _ _ _ h => h⟩
theorem Wk.trans {c : WCtx} {w w' w'' : World} (h : Wk c w w') (k : Wk c w' w'') : Wk c w w'' := by
 refine ⟨fun b cs T fr hM ho => ?_, fun b es n hM ho => k.maps b es n hM (h.maps b es n hM ho)⟩
 obtain ⟨cs', h1, h2, h3⟩ := h.cells b cs T fr hM ho
 obtain ⟨cs'', k1, k2, k3⟩ := k.cells b cs' T fr hM h1
 refine ⟨cs'', k1, k2.trans h2, fun j v hj => ?_⟩
 rcases k3 j v hj with hj | hj
 ·exact h3 j v hj
 ·exact .inr hj
theorem Wk.ofExt {c : WCtx} {X : Nat -> Prop} {w w' : World} (h : Ext X w w') (hX : ∀ b, c.M b -> ¬ X b) : Wk c w w' :=
 ⟨fun b cs T fr hM ho => ⟨cs, h.old b _ (hX b hM) ho, rfl, fun j v hj => .inl hj⟩, fun b es n hM ho => h.old b _ (hX b hM) ho⟩
theorem Wk.at {c : WCtx} {w w' : World} (h : Wk c w w') {T : TypeId} {a : Addr} {v : Value} (hM : c.M a.block) (ha : At w T a v) (hn : noteIdx T a.off = false) : At w' T a v := by
 obtain ⟨cs, fr, h1, h2, h3⟩ := ha
 obtain ⟨cs', k1, k2, k3⟩ := h.cells _ _ _ _ hM h1
 have hlt : a.off < cs'.size := by
  rw [k2]
  rcases Nat.lt_or_ge a.off cs.size with hh | hh
  ·exact hh
  ·rw [Array.getElem?_eq_none hh] at h3; cases h3
 refine ⟨cs', fr, k1, h2, ?_⟩
 rcases k3 a.off cs'[a.off] (Array.getElem?_eq_getElem hlt) with hj | hj
 ·rw [Array.getElem?_eq_getElem hlt, <- h3]; exact hj.symm
 ·rw [hj.1] at hn; cases hn
theorem Wk.note {c : WCtx} {w w' : World} (h : Wk c w w') {T : TypeId} {a : Addr} {v : Value} (hM : c.M a.block) (ha : At w T a v) : ∃ v', At w' T a v' /\ (v' = v ∨ noteOK c a.block T a.off v') := by
 obtain ⟨cs, fr, h1, h2, h3⟩ := ha
 obtain ⟨cs', k1, k2, k3⟩ := h.cells _ _ _ _ hM h1
 have hlt : a.off < cs'.size := by
  rw [k2]
  rcases Nat.lt_or_ge a.off cs.size with hh | hh
  ·exact hh
  ·rw [Array.getElem?_eq_none hh] at h3; cases h3
 refine ⟨cs'[a.off], ⟨cs', fr, k1, h2, Array.getElem?_eq_getElem hlt⟩, ?_⟩
 rcases k3 a.off cs'[a.off] (Array.getElem?_eq_getElem hlt) with hj | hj
 ·rw [h3] at hj
  exact .inl (Option.some.inj hj).symm
 ·exact .inr hj
theorem Wk.smap {c : WCtx} {w w' : World} (h : Wk c w w') {b : Nat} {m : List (BA × Value)} (hM : c.M b) (hm : SMap w b m) : SMap w' b m := by
 obtain ⟨ents, cl, h1, h2⟩ := hm
 exact ⟨ents, cl, h.maps b _ _ hM h1, h2⟩
theorem Wk.set {c : WCtx} {w : World} {b j : Nat} {T : TypeId} {cs : Array Value} {v : Value} (hb : objAt w b = some (.cells cs T (0, 0))) (hok : noteOK c b T j v) : Wk c w (w.setCell ⟨b, j, none⟩ v) := by
 refine ⟨fun b' cs' T' fr hM ho => ?_, fun b' es n hM ho => ?_⟩
 ·by_cases hbb : b' = b
  ·subst hbb
   rw [ho] at hb
   simp only [Option.some.injEq, Obj.cells.injEq] at hb
   obtain ⟨rfl, rfl, rfl⟩ := hb
   refine ⟨cs'.setIfInBounds j v, objAt_setCell_eq (a := ⟨b', j, none⟩) ho rfl, by simp, fun i u hi => ?_⟩
   rw [Array.getElem?_setIfInBounds] at hi
   split at hi
   ·rename_i hji
    subst hji
    split at hi
    ·exact .inr (by rw [<- Option.some.inj hi]; exact hok)
    ·cases hi
   ·exact .inl hi
  ·exact ⟨cs', by rw [objAt_setCell_ne (a := ⟨b, j, none⟩) (Ne.symm hbb)]; exact ho, rfl, fun i u hi => .inl hi⟩
 ·have hbb : b' ≠ b := fun e => by
   subst e
   rw [ho] at hb; cases hb
  rw [objAt_setCell_ne (a := ⟨b, j, none⟩) (Ne.symm hbb)]
  exact ho
abbrev WX (c : WCtx) (vm : Nat) : Nat -> Prop := fun b => c.M b ∨ c.V b ∨ b = vm
structure Stp (c : WCtx) (vm : Nat) (w w' : World) : Prop where
 ext : Ext (WX c vm) w w'
 wk : Wk c w w'
theorem Stp.refl (c : WCtx) (vm : Nat) (w : World) : Stp c vm w w := ⟨Ext.refl w, Wk.refl c w⟩
theorem Stp.trans {c : WCtx} {vm : Nat} {w w' w'' : World} (h : Stp c vm w w') (k : Stp c vm w' w'') : Stp c vm w w'' := ⟨h.ext.trans k.ext fun _ _ h => h, h.wk.trans k.wk⟩
structure Good (c : WCtx) : Prop where
 mv : ∀ b, c.M b -> ¬ c.V b
 lt : ∀ b, c.M b -> b < c.w0.heap.size
 vlt : ∀ b, c.V b -> b < c.w0.heap.size
 wb : ¬ c.M c.wb /\ ¬ c.V c.wb
 eb : ¬ c.M c.eb /\ ¬ c.V c.eb /\ c.eb ≠ c.wb
 fm : ¬ c.M c.fm /\ ¬ c.V c.fm /\ c.fm ≠ c.wb
 sb : c.M c.sb
 qb : c.M c.qb
 m1 : c.M c.m1 /\ SMap c.w0 c.m1 c.tm /\ NMap Def.name (PDef c.M c.w0) c.types c.tm
 m2 : c.M c.m2 /\ SMap c.w0 c.m2 c.dm /\ NMap DirDef.name (PDirDef c.M c.w0) c.dirs c.dm
 okt : ∀ d ∈ c.types, okDef d
 okd : ∀ d ∈ c.dirs, ∀ y ∈ d.args, okArgDef y
 sch : ∃ (q1 q2 q3 : OA) (s : List Value), Blk c.w0 c.sb 206 (.pointer q1 :: .pointer q2 :: .pointer q3 :: .slice none 0 0 :: .map (some c.m1) :: .map (some c.m2) :: s) /\
  (∃ n, OptQ (PDef c.M c.w0) (lastN Def.name c.types n) q1) /\ (∃ n, OptQ (PDef c.M c.w0) (lastN Def.name c.types n) q2) /\ (∃ n, OptQ (PDef c.M c.w0) (lastN Def.name c.types n) q3)
 st : ∀ l w w', c.St l w -> Ext (fun b => ¬ c.V b) w w' -> c.St l w'
structure Wst (c : WCtx) (co : OA) (vm : Nat) (evs : List Value) (w : World) : Prop where
 wk : Wk c c.w0 w
 sz : c.w0.heap.size <= w.heap.size
 walker : Blk w c.wb 168 [.pointer (some (adr c.eb)), .pointer (some (adr c.sb)), .pointer (some (adr c.qb)), .map (some vm), .pointer co, .map (some c.fm)]
 events : Blk w c.eb 118 evs
 frags : SMap w c.fm c.fl /\ ∀ k, OptR (PFrag c.M c.w0) (firstN Frag.name c.frags k) (mget c.fl k)
 vm : vm ≠ c.wb /\ vm ≠ c.eb /\ vm ≠ c.fm /\ ¬ c.M vm /\ ¬ c.V vm
 co : co = none ∨ ∃ ob o, co = some (adr ob) /\ POp c.M c.w0 o ob
theorem Wst.step {c : WCtx} {co : OA} {vm : Nat} {evs : List Value} {w w' : World} (g : Good c) (h : Wst c co vm evs w) (s : Stp c vm w w') : Wst c co vm evs w' := by
 have h1 : ¬ WX c vm c.wb := fun e => e.elim g.wb.1 fun e => e.elim g.wb.2 fun e => h.vm.1 e.symm
 have h2 : ¬ WX c vm c.eb := fun e => e.elim g.eb.1 fun e => e.elim g.eb.2.1 fun e => h.vm.2.1 e.symm
 have h3 : ¬ WX c vm c.fm := fun e => e.elim g.fm.1 fun e => e.elim g.fm.2.1 fun e => h.vm.2.2.1 e.symm
 exact ⟨h.wk.trans s.wk, Nat.le_trans h.sz s.ext.size, h.walker.ext s.ext h1, h.events.ext s.ext h2, ⟨h.frags.1.ext s.ext h3, h.frags.2⟩, h.vm, h.co⟩
theorem Wk.off {c : WCtx} {w : World} (hwk : Wk c c.w0 w) {b : Nat} {T : TypeId} {cs : List Value} (hM : c.M b) (hB : Blk c.w0 b T cs) {j n : Nat} (hj : j + n <= cs.length) :
  ∃ (cs : Array Value) (T : TypeId), objAt w b = some (.cells cs T (0, 0)) /\ (none : Option Nat) = none /\ j + n <= cs.size /\ false = false := by
 obtain ⟨cs', h1, h2, h3⟩ := hwk.cells _ _ _ _ hM hB
 exact ⟨cs', T, h1, rfl, by rw [h2]; simpa using hj, rfl⟩
theorem Wk.nd {c : WCtx} {w : World} (hwk : Wk c c.w0 w) {b : Nat} {T : TypeId} {cs : List Value} (hM : c.M b) (hB : Blk c.w0 b T cs) {j : Nat} {v : Value} (hj : cs[j]? = some v) (hn : noteIdx T j = false) : w.cell? ⟨b, j, none⟩ = some v :=
 (hwk.at (a := ⟨b, j, none⟩) hM (hB.at hj) hn).cell
theorem Wk.ndn {c : WCtx} {w : World} (hwk : Wk c c.w0 w) {b : Nat} {T : TypeId} {cs : List Value} (hM : c.M b) (hB : Blk c.w0 b T cs) {j : Nat} {v : Value} (hj : cs[j]? = some v) : ∃ v', w.cell? ⟨b, j, none⟩ = some v' /\ (v' = v ∨ noteOK c b T j v') := by
 obtain ⟨v', h1, h2⟩ := hwk.note (a := ⟨b, j, none⟩) hM (hB.at hj)
 exact ⟨v', h1.cell, h2⟩
theorem PSl.wget {α : Type} {c : WCtx} {w : World} (hwk : Wk c c.w0 w) {T : TypeId} {P : α -> Value -> Prop} {A : OA} {L C : Nat} {xs : List α} (h : PSl c.M c.w0 T P A L C xs) (hn : ∀ j, noteIdx T j = false) {i : Int} (h0 : 0 <= i) (hi : i < (L : Int)) :
  ∃ (p : Addr) (x : α) (v : Value), A = some p /\ xs[i.toNat]? = some x /\ w.cell? (p.add (i.toNat * 1)) = some v /\ P x v := by
 obtain ⟨p, x, v, h1, h2, h3, h4, h5⟩ := h.get h0 hi
 exact ⟨p, x, v, h1, h2, (hwk.at (by rw [add_block]; exact h3) h4 (hn _)).cell, h5⟩
def typeName : Typ -> BA
 | .mk n [] _ => n
 | .mk _ (t :: _) _ => typeName t
theorem c_ast_Type_Name {c : WCtx} : ∀ (t : Typ) (b : Nat) (w : World), Wk c c.w0 w -> PTyp c.M c.w0 t b -> okTyp t -> CP 125 #[.pointer (some (adr b))] w fun e w' => e = .returned (.string (typeName t)) /\ w' = w
 | .mk n [] nn, b, w, hwk, hp, hok => by
  simp only [PTyp] at hp
  obtain ⟨q, pos, hM, hB, -⟩ := hp
  have hn : n ≠ E0 := by simpa [okTyp] using hok
  have c0 := hwk.nd hM hB (j := 0) rfl rfl
  refine q_ast_Type_Name (some (adr b)) w _ ⟨adr b, rfl, n, c0, fun _ => ⟨adr b, rfl, n, c0, rfl, rfl⟩, fun h => ?_⟩
  exact absurd (nbeq_f h) hn
 | .mk n (t :: l) nn, b, w, hwk, hp, hok => by
  simp only [PTyp, PTypE] at hp
  obtain ⟨q, pos, hM, hB, eb, rfl, ht⟩ := hp
  have hl : l = [] /\ n = E0 /\ okTyp t := by
   cases l with
   | nil => exact ⟨rfl, by simpa [okTyp] using hok⟩
   | cons y l => exact absurd hok (by simp [okTyp])
  obtain ⟨rfl, rfl, hot⟩ := hl
  have c0 := hwk.nd hM hB (j := 0) rfl rfl
  refine q_ast_Type_Name (some (adr b)) w _ ⟨adr b, rfl, E0, c0, fun h => ?_, fun _ => ⟨adr b, rfl, _, hwk.nd hM hB (j := 1) rfl rfl, ?_⟩⟩
  ·simp at h
  ·refine (c_ast_Type_Name t eb w hwk ht hot).mono ?_
   rintro _ _ ⟨rfl, rfl⟩
   exact ⟨_, rfl, trivial, rfl, rfl⟩
end Go.VC
namespace Go.VC
open Go Go.Proofs
variable [DB]
theorem firstN_take {α : Type} {nm : α -> BA} {xs : List α} {i : Int} {x : α} {k : BA} (h0 : 0 <= i) (h : firstN nm (xs.take i.toNat) k = none) (hx : xs[i.toNat]? = some x) (hq : nm x ≠ k) : firstN nm (xs.take (i + 1).toNat) k = none :=
 find_take h0 h hx (by simp [hq])
theorem firstN_hit {α : Type} {nm : α -> BA} {xs : List α} {i : Nat} {x : α} {k : BA} (h : firstN nm (xs.take i) k = none) (hx : xs[i]? = some x) (hq : nm x = k) : firstN nm xs k = some x := find_hit h hx (by simp [hq])
theorem firstN_mem {α : Type} {nm : α -> BA} {xs : List α} {x : α} {k : BA} (h : firstN nm xs k = some x) : x ∈ xs /\ nm x = k := ⟨List.mem_of_find?_eq_some h, by simpa using List.find?_some h⟩
theorem lastN_mem {α : Type} {nm : α -> BA} {xs : List α} {x : α} {k : BA} (h : lastN nm xs k = some x) : x ∈ xs := (List.mem_filter.1 (List.mem_of_getLast? h)).1
theorem c_ast_FieldList_ForName {c : WCtx} {A : OA} {L C : Nat} {xs : List Fld} {name : BA} {w : World} (hwk : Wk c c.w0 w) (h : PFlds c.M c.w0 A L C xs) :
  CP 138 #[.slice A L C, .string name] w fun e w' => ∃ q, e = .returned (.pointer q) /\ w' = w /\ OptQ (PFld c.M c.w0) (firstN Fld.name xs name) q := by
 have hl := h.1
 have hl2 := h.2.2.1
 refine q_ast_FieldList_ForName A L C name w _ ⟨fun i w1 => 0 <= i /\ i <= L /\ w1 = w /\ firstN Fld.name (xs.take i.toNat) name = none, fun i _ => ((L : Int) - i).toNat, ⟨by omega, by omega, rfl, by simp [firstN]⟩, ?_⟩
 rintro i w1 ⟨h0, hi, rfl, hn⟩
 refine ⟨fun hlt => ?_, fun hge => ?_⟩
 ·have hlt := of_decide_eq_true hlt
  obtain ⟨p, x, v, hp, hx, hc, b, rfl, hpx⟩ := h.wget hwk (fun _ => rfl) h0 hlt
  have hpx' := hpx
  obtain ⟨_, _, _, _, _, _, _, _, _, hM, hB, -⟩ := hpx'
  refine ⟨p, hp, ⟨h0, hlt⟩, _, hc, adr b, rfl, x.name, hwk.nd hM hB (j := 1) rfl rfl, fun he => ?_, fun hne => ?_⟩
  ·refine ⟨_, rfl, rfl, ?_⟩
   rw [firstN_hit hn hx (bytes_beq_t.1 he)]
   exact ⟨b, rfl, hpx⟩
  ·rw [wrap_lt h0 (by omega)]
   exact next h0 hlt ⟨rfl, firstN_take h0 hn hx (bytes_beq_f.1 hne)⟩
 ·have hle := of_decide_eq_false hge
  rw [List.take_of_length_le (by omega)] at hn
  refine ⟨none, rfl, rfl, ?_⟩
  rw [hn]
  rfl
theorem c_ast_ArgumentDefinitionList_ForName {c : WCtx} {A : OA} {L C : Nat} {xs : List ArgDef} {name : BA} {w : World} (hwk : Wk c c.w0 w) (h : PArgDefs c.M c.w0 A L C xs) :
  CP 139 #[.slice A L C, .string name] w fun e w' => ∃ q, e = .returned (.pointer q) /\ w' = w /\ OptQ (PArgDef c.M c.w0) (firstN ArgDef.name xs name) q := by
 have hl := h.1
 have hl2 := h.2.2.1
 refine q_ast_ArgumentDefinitionList_ForName A L C name w _ ⟨fun i w1 => 0 <= i /\ i <= L /\ w1 = w /\ firstN ArgDef.name (xs.take i.toNat) name = none, fun i _ => ((L : Int) - i).toNat, ⟨by omega, by omega, rfl, by simp [firstN]⟩, ?_⟩
 rintro i w1 ⟨h0, hi, rfl, hn⟩
 refine ⟨fun hlt => ?_, fun hge => ?_⟩
 ·have hlt := of_decide_eq_true hlt
  obtain ⟨p, x, v, hp, hx, hc, b, rfl, hpx⟩ := h.wget hwk (fun _ => rfl) h0 hlt
  have hpx' := hpx
  obtain ⟨_, _, _, _, _, _, hM, hB, -⟩ := hpx'
  refine ⟨p, hp, ⟨h0, hlt⟩, _, hc, adr b, rfl, x.name, hwk.nd hM hB (j := 1) rfl rfl, fun he => ?_, fun hne => ?_⟩
  ·refine ⟨_, rfl, rfl, ?_⟩
   rw [firstN_hit hn hx (bytes_beq_t.1 he)]
   exact ⟨b, rfl, hpx⟩
  ·rw [wrap_lt h0 (by omega)]
   exact next h0 hlt ⟨rfl, firstN_take h0 hn hx (bytes_beq_f.1 hne)⟩
 ·have hle := of_decide_eq_false hge
  rw [List.take_of_length_le (by omega)] at hn
  refine ⟨none, rfl, rfl, ?_⟩
  rw [hn]
  rfl
theorem c_ast_VariableDefinitionList_ForName {c : WCtx} {A : OA} {L C : Nat} {xs : List VarD} {name : BA} {w : World} (hwk : Wk c c.w0 w) (h : PVars c.M c.w0 A L C xs) :
  CP 137 #[.slice A L C, .string name] w fun e w' => ∃ q, e = .returned (.pointer q) /\ w' = w /\ OptQ (PVar c.M c.w0) (firstN VarD.name xs name) q := by
 have hl := h.1
 have hl2 := h.2.2.1
 refine q_ast_VariableDefinitionList_ForName A L C name w _ ⟨fun i w1 => 0 <= i /\ i <= L /\ w1 = w /\ firstN VarD.name (xs.take i.toNat) name = none, fun i _ => ((L : Int) - i).toNat, ⟨by omega, by omega, rfl, by simp [firstN]⟩, ?_⟩
 rintro i w1 ⟨h0, hi, rfl, hn⟩
 refine ⟨fun hlt => ?_, fun hge => ?_⟩
 ·have hlt := of_decide_eq_true hlt
  obtain ⟨p, x, v, hp, hx, hc, b, rfl, hpx⟩ := h.wget hwk (fun _ => rfl) h0 hlt
  have hpx' := hpx
  obtain ⟨_, _, _, _, _, _, hM, hB, -⟩ := hpx'
  refine ⟨p, hp, ⟨h0, hlt⟩, _, hc, adr b, rfl, x.name, hwk.nd hM hB (j := 1) rfl rfl, fun he => ?_, fun hne => ?_⟩
  ·refine ⟨_, rfl, rfl, ?_⟩
   rw [firstN_hit hn hx (bytes_beq_t.1 he)]
   exact ⟨b, rfl, hpx⟩
  ·rw [wrap_lt h0 (by omega)]
   exact next h0 hlt ⟨rfl, firstN_take h0 hn hx (bytes_beq_f.1 hne)⟩
 ·have hle := of_decide_eq_false hge
  rw [List.take_of_length_le (by omega)] at hn
  refine ⟨none, rfl, rfl, ?_⟩
  rw [hn]
  rfl
def evNode (c : WCtx) (w : World) (node : Value) : Ev -> Prop
 | .op o => ∃ b, node = .pointer (some (adr b)) /\ POp c.M c.w0 o b /\ o ∈ c.ops
 | .frag f => ∃ b, node = .pointer (some (adr b)) /\ PFrag c.M c.w0 f b /\ f ∈ c.frags
 | .spread n found => ∃ b q d u2 u3 pos, node = .pointer (some (adr b)) /\ c.M b /\ Blk c.w0 b 133 [.string n, d, u2, u3, .pointer pos, .pointer none] /\ w.cell? ⟨b, 3, none⟩ = some (.pointer q) /\ q.isSome = found /\ found = (firstN Frag.name c.frags n).isSome
def Vis (c : WCtx) (w : World) (A : OA) (L : Nat) (obs : Bool) (kind : Ev -> Bool) : Prop :=
 (obs = false /\ L = 0) ∨ (obs = true /\ L = 1 /\ ∃ (p : Addr) (T : TypeId) (g : FuncId) (cap : List Value) (fn : Func), A = some p /\ At w T p (.func (.func g) #[] cap.toArray) /\ ¬ c.M p.block /\ ¬ c.V p.block /\ Tryz.prog.funcs[g]? = some fn /\ (fn.name == "runtime.NumGoroutine" || fn.body.isNone) = false /\
  ∀ (l : List Ev) (w1 : World) (co : OA) (vm : Nat) (evs : List Value) (node : Value) (ev : Ev), c.St l w1 -> Wst c co vm evs w1 -> kind ev = true -> evNode c w1 node ev ->
   CP g ([.pointer (some (adr c.wb)), node] ++ cap).toArray w1 fun e w2 => e = .returned (.tuple #[]) /\ Ext c.V w1 w2 /\ c.St (l ++ [ev]) w2)
theorem Vis.step {c : WCtx} {w w' : World} {A : OA} {L : Nat} {obs : Bool} {kind : Ev -> Bool} (h : Vis c w A L obs kind) {X : Nat -> Prop} (hx : Ext X w w') (hX : ∀ b T a v, At w T a v -> a.block = b -> ¬ c.M b -> ¬ c.V b -> ¬ X b) : Vis c w' A L obs kind := by
 rcases h with h | ⟨h1, h2, p, T, g, cap, fn, h3, h4, h5, h6, h7⟩
 ·exact .inl h
 ·exact .inr ⟨h1, h2, p, T, g, cap, fn, h3, hx.at (hX p.block T p _ h4 rfl h5 h6) h4, h5, h6, h7⟩
abbrev em (obs : Bool) (ev : Ev) : List Ev := if obs then [ev] else []
theorem Stp.ofV {c : WCtx} {vm : Nat} {w w' : World} (g : Good c) (h : Ext c.V w w') : Stp c vm w w' := ⟨h.mono fun _ _ e => .inr (.inl e), Wk.ofExt h fun b hb => g.mv b hb⟩
theorem vis_loop {c : WCtx} (g : Good c) {w : World} {A : OA} {L : Nat} {obs : Bool} {kind : Ev -> Bool} (hv : Vis c w A L obs kind) {l : List Ev} {co : OA} {vm : Nat} {evs : List Value} {node : Value} {ev : Ev} (hl : c.St l w) (hw : Wst c co vm evs w) (hk : kind ev = true) (hn : evNode c w node ev)
  {Q : World -> Prop} (hQ : ∀ w', Ext c.V w w' -> c.St (l ++ em obs ev) w' -> Q w') :
  ∃ (I : Int -> World -> Prop) (μ : Int -> World -> Nat), I (0 : Int) w /\ ∀ (n : Int) (w1 : World), I n w1 ->
   (((decide (n < (L : Int))) = true -> ∃ p : Addr, A = some p /\ (0 <= n /\ n < (L : Int)) /\ ∃ v : Value, w1.cell? (p.add (n.toNat * 1)) = some v /\ ∃ (g : FuncId) (cap : List Value), v = .func (.func g) #[] cap.toArray /\ ∃ fn, Tryz.prog.funcs[g]? = some fn /\ (fn.name == "runtime.NumGoroutine" || fn.body.isNone) = false /\
    CP g ([.pointer (some (adr c.wb)), node] ++ cap).toArray w1 (fun e w2 => e = .returned (.tuple #[]) /\ True /\ (I (IntKind.i64.wrap (n + (1 : Int))) w2 /\ μ (IntKind.i64.wrap (n + (1 : Int))) w2 < μ n w1))) /\
   ((decide (n < (L : Int))) = false -> Q w1)) := by
 rcases hv with ⟨rfl, rfl⟩ | ⟨rfl, rfl, p, T, gg, cap, fn, rfl, ha, hM, hV, hf, hb, hcall⟩
 ·refine ⟨fun n w1 => n = 0 /\ w1 = w, fun _ _ => 0, ⟨rfl, rfl⟩, ?_⟩
  rintro _ _ ⟨rfl, rfl⟩
  exact ⟨fun h => absurd (of_decide_eq_true h) (by omega), fun _ => hQ _ (Ext.refl _) (by simpa [em] using hl)⟩
 ·refine ⟨fun n w1 => (n = 0 /\ w1 = w) ∨ (n = 1 /\ Ext c.V w w1 /\ c.St (l ++ [ev]) w1), fun n _ => (1 - n).toNat, .inl ⟨rfl, rfl⟩, ?_⟩
  rintro n w1 (⟨rfl, rfl⟩ | ⟨rfl, hx, hs⟩)
  ·refine ⟨fun _ => ⟨p, rfl, ⟨by omega, by omega⟩, _, ?_, gg, cap, rfl, fn, hf, hb, ?_⟩, fun h => absurd (of_decide_eq_false h) (by omega)⟩
   ·have := ha.cell
    simpa [Addr.add] using this
   ·refine (hcall l w1 co vm evs node ev hl hw hk hn).mono ?_
    rintro _ w2 ⟨rfl, hx, hs⟩
    exact ⟨rfl, trivial, .inr ⟨by decide, hx, hs⟩, by show (1 - IntKind.i64.wrap ((0 : Int) + 1)).toNat < ((1 : Int) - 0).toNat; decide⟩
  ·exact ⟨fun h => absurd (of_decide_eq_true h) (by omega), fun _ => hQ _ hx (by simpa [em] using hs)⟩
end Go.VC
namespace Go.VC
open Go Go.Proofs
variable [DB]
structure Nst (c : WCtx) (w w' : World) : Prop where
 ext : Ext c.M w w'
 wk : Wk c w w'
theorem Nst.refl (c : WCtx) (w : World) : Nst c w w := ⟨Ext.refl w, Wk.refl c w⟩
theorem Nst.trans {c : WCtx} {w w' w'' : World} (h : Nst c w w') (k : Nst c w' w'') : Nst c w w'' := ⟨h.ext.trans k.ext fun _ _ h => h, h.wk.trans k.wk⟩
theorem Nst.of0 {c : WCtx} {w w' : World} (h : Ext (fun _ => False) w w') : Nst c w w' := ⟨h.toM _, Wk.ofExt h fun _ _ => id⟩
theorem Nst.drew {c : WCtx} {w w1 w2 : World} (h : Nst c w w1) (e : w2 = w1.drew) : Nst c w w2 := h.trans (Nst.of0 (by rw [e]; exact (Ext.refl w1).drew))
theorem Nst.stp {c : WCtx} {vm : Nat} {w w' : World} (h : Nst c w w') : Stp c vm w w' := ⟨h.ext.mono fun _ _ e => .inl e, h.wk⟩
theorem Nst.st {c : WCtx} (g : Good c) {w w' : World} (h : Nst c w w') {l : List Ev} (hl : c.St l w) : c.St l w' := g.st l w w' hl (h.ext.mono fun _ _ e => g.mv _ e)
theorem Wst.nst {c : WCtx} {co : OA} {vm : Nat} {evs : List Value} {w w' : World} (g : Good c) (h : Wst c co vm evs w) (s : Nst c w w') : Wst c co vm evs w' := h.step g s.stp
theorem Nst.set {c : WCtx} {w : World} {b j : Nat} {T : TypeId} {cs : List Value} {v : Value} (hwk : Wk c c.w0 w) (hM : c.M b) (hB : Blk c.w0 b T cs) (hok : noteOK c b T j v) : Nst c w (w.setCell ⟨b, j, none⟩ v) := by
 obtain ⟨cs', h1, h2, h3⟩ := hwk.cells _ _ _ _ hM hB
 exact ⟨Ext.setCell (X := c.M) (Ext.refl w) (a := ⟨b, j, none⟩) (.inl hM) _, Wk.set h1 hok⟩
theorem Wk.setcell {c : WCtx} {w : World} (hwk : Wk c c.w0 w) {b : Nat} {T : TypeId} {cs : List Value} (hM : c.M b) (hB : Blk c.w0 b T cs) {j : Nat} {v : Value} (hj : j < cs.length) : (w.setCell ⟨b, j, none⟩ v).cell? ⟨b, j, none⟩ = some v := by
 obtain ⟨cs', h1, h2, h3⟩ := hwk.cells _ _ _ _ hM hB
 have := objAt_setCell_eq (v := v) (a := ⟨b, j, none⟩) h1 rfl
 have hsz : j < cs'.size := by rw [h2]; simpa using hj
 exact (show At _ T ⟨b, j, none⟩ v from ⟨_, _, this, rfl, by simp [Array.getElem?_setIfInBounds, hsz]⟩).cell
def GDef (c : WCtx) (q : OA) : Prop := q = none ∨ ∃ db d, q = some (adr db) /\ PDef c.M c.w0 d db /\ okDef d
def GTyp (c : WCtx) (q : OA) : Prop := q = none ∨ ∃ tb t, q = some (adr tb) /\ PTyp c.M c.w0 t tb
def GVar (c : WCtx) (q : OA) : Prop := q = none ∨ ∃ db d, q = some (adr db) /\ PVar c.M c.w0 d db
theorem note_v5 {c : WCtx} {b : Nat} {q : OA} (h : GDef c q) : noteOK c b 308 5 (.pointer q) := ⟨rfl, fun _ => ⟨q, rfl, h⟩, fun h => absurd h.2 (by decide), fun h => absurd h.2 (by decide), fun h => absurd h.1 (by decide), fun h => absurd h.1 (by decide)⟩
theorem note_v6 {c : WCtx} {b : Nat} {q : OA} (h : GVar c q) : noteOK c b 308 6 (.pointer q) := ⟨rfl, fun h => absurd h.2 (by decide), fun _ => ⟨q, rfl, h⟩, fun h => absurd h.2 (by decide), fun h => absurd h.1 (by decide), fun h => absurd h.1 (by decide)⟩
theorem note_v7 {c : WCtx} {b : Nat} {q : OA} (h : GTyp c q) : noteOK c b 308 7 (.pointer q) := ⟨rfl, fun h => absurd h.2 (by decide), fun h => absurd h.2 (by decide), fun _ => ⟨q, rfl, h⟩, fun h => absurd h.1 (by decide), fun h => absurd h.1 (by decide)⟩
theorem note_v8 {c : WCtx} {b : Nat} {v : Value} : noteOK c b 308 8 v := ⟨rfl, fun h => absurd h.2 (by decide), fun h => absurd h.2 (by decide), fun h => absurd h.2 (by decide), fun h => absurd h.1 (by decide), fun h => absurd h.1 (by decide)⟩
theorem note_d7 {c : WCtx} {b : Nat} {q : OA} (h : GDef c q) : noteOK c b 179 7 (.pointer q) := ⟨rfl, fun h => absurd h.1 (by decide), fun h => absurd h.1 (by decide), fun h => absurd h.1 (by decide), fun _ => ⟨q, rfl, h⟩, fun h => absurd h.1 (by decide)⟩
theorem note_plain {c : WCtx} {b : Nat} {T : TypeId} {j : Nat} {v : Value} (h : noteIdx T j = true) (h1 : T ≠ 308) (h2 : ¬ (T = 179 /\ j = 7)) (h3 : ¬ (T = 133 /\ j = 3)) : noteOK c b T j v :=
 ⟨h, fun e => absurd e.1 h1, fun e => absurd e.1 h1, fun e => absurd e.1 h1, fun e => absurd e h2, fun e => absurd e h3⟩
theorem GDef.of {c : WCtx} (g : Good c) {n : BA} {q : OA} (h : OptQ (PDef c.M c.w0) (lastN Def.name c.types n) q) : GDef c q := by
 cases hl : lastN Def.name c.types n with
 | none => rw [hl] at h; exact .inl h
 | some d =>
  rw [hl] at h
  obtain ⟨b, rfl, hp⟩ := h
  exact .inr ⟨b, d, rfl, hp, g.okt d (lastN_mem hl)⟩
section
variable {c : WCtx} {w : World} {b : Nat} {cs : List Value}
theorem val5 (hwk : Wk c c.w0 w) (hM : c.M b) (hB : Blk c.w0 b 308 cs) (hj : cs[5]? = some (.pointer none)) : ∃ q, w.cell? ⟨b, 5, none⟩ = some (.pointer q) /\ GDef c q := by
 obtain ⟨v', h1, h2 | h2⟩ := hwk.ndn hM hB hj
 ·exact ⟨none, by rw [h1, h2], .inl rfl⟩
 ·obtain ⟨q, rfl, hq⟩ := h2.2.1 ⟨rfl, rfl⟩
  exact ⟨q, h1, hq⟩
theorem val7 (hwk : Wk c c.w0 w) (hM : c.M b) (hB : Blk c.w0 b 308 cs) (hj : cs[7]? = some (.pointer none)) : ∃ q, w.cell? ⟨b, 7, none⟩ = some (.pointer q) /\ GTyp c q := by
 obtain ⟨v', h1, h2 | h2⟩ := hwk.ndn hM hB hj
 ·exact ⟨none, by rw [h1, h2], .inl rfl⟩
 ·obtain ⟨q, rfl, hq⟩ := h2.2.2.2.1 ⟨rfl, rfl⟩
  exact ⟨q, h1, hq⟩
theorem var7 (hwk : Wk c c.w0 w) (hM : c.M b) (hB : Blk c.w0 b 179 cs) (hj : cs[7]? = some (.pointer none)) : ∃ q, w.cell? ⟨b, 7, none⟩ = some (.pointer q) /\ GDef c q := by
 obtain ⟨v', h1, h2 | h2⟩ := hwk.ndn hM hB hj
 ·exact ⟨none, by rw [h1, h2], .inl rfl⟩
 ·obtain ⟨q, rfl, hq⟩ := h2.2.2.2.2.1 ⟨rfl, rfl⟩
  exact ⟨q, h1, hq⟩
end
theorem PVal.blk {S : Nat -> Prop} {w : World} {x : Val} {b : Nat} (h : PVal S w x b) : ∃ (k : Int) (r : BA) (A : OA) (L C : Nat) (pos : OA), S b /\ Blk w b 308 [.string r, .slice A L C, .int .i64 k, .pointer pos, .pointer none, .pointer none, .pointer none, .pointer none, .bool false] := by
 cases x with
 | mk k r kids =>
  obtain ⟨A, L, C, pos, h1, h2, h3⟩ := PVal_mk.1 h
  exact ⟨k, r, A, L, C, pos, h1, h2⟩
theorem Wst.sch {c : WCtx} {co : OA} {vm : Nat} {evs : List Value} {w : World} (g : Good c) (h : Wst c co vm evs w) :
  w.cell? ⟨c.wb, 1, none⟩ = some (.pointer (some (adr c.sb))) /\ w.cell? ⟨c.sb, 4, none⟩ = some (.map (some c.m1)) /\ w.cell? ⟨c.sb, 5, none⟩ = some (.map (some c.m2)) /\
  ∀ u, ∃ q, (Instr.lookup 202 (.map (some c.m1)) (.string u) false).run Tryz.prog w = .ok (.pointer q) w /\ GDef c q := by
 obtain ⟨q1, q2, q3, s, hB, -⟩ := g.sch
 refine ⟨(h.walker.at (j := 1) rfl).cell, h.wk.nd g.sb hB (j := 4) rfl rfl, h.wk.nd g.sb hB (j := 5) rfl rfl, fun u => ?_⟩
 obtain ⟨q, h1, h2⟩ := tlook (h.wk.smap g.m1.1 g.m1.2.1) g.m1.2.2 u
 exact ⟨q, h1, GDef.of g h2⟩
abbrev WV (c : WCtx) (v : Val) : Prop := ∀ (vb : Nat) (w : World) (co : OA) (vm : Nat) (evs : List Value), Wst c co vm evs w -> evs[7]? = some (.slice none 0 0) -> PVal c.M c.w0 v vb ->
 CP 126 #[.pointer (some (adr c.wb)), .pointer (some (adr vb))] w fun e w' => e = .returned (.tuple #[]) /\ Nst c w w'
theorem c_walkValue_step {c : WCtx} (g : Good c) (k : Int) (r : BA) (kids : List (BA × Val)) (IH : ∀ x ∈ kids, WV c x.2) : WV c (.mk k r kids) := by
 intro vb w co vm evs hw he7 hp
 obtain ⟨A, L, C, pos, hM, hB, hkids⟩ := PVal_mk.1 hp
 have hL := hkids.2.2.1
 refine q_core_Walker_walkValue (some (adr c.wb)) (some (adr vb)) w _ fun K3 hK3 => ?_
 have key3 : ∀ w4, Nst c w w4 -> K3 w4 := by
  intro w4 n4
  refine hK3 w4 fun K5 hK5 => ?_
  have key5 : ∀ w6, Nst c w w6 -> K5 w6 := by
   intro w6 n6
   refine hK5 w6 fun K7 hK7 => ?_
   have key7 : ∀ w8, Nst c w w8 -> K7 w8 := by
    intro w8 n8
    have s8 := hw.nst g n8
    refine hK7 w8 ⟨adr c.wb, rfl, _, (s8.walker.at (j := 0) rfl).cell, adr c.eb, rfl, none, 0, 0, (s8.events.at (j := 7) he7).cell, ?_⟩
    refine ⟨fun n w1 => n = 0 /\ w1 = w8, fun _ _ => 0, ⟨rfl, rfl⟩, ?_⟩
    rintro _ _ ⟨rfl, rfl⟩
    exact ⟨fun h => absurd (of_decide_eq_true h) (by omega), fun _ => ⟨rfl, n8⟩⟩
   have s6 := hw.nst g n6
   refine ⟨adr vb, rfl, k, s6.wk.nd hM hB (j := 2) rfl rfl, fun _ => ?_, fun _ => key7 w6 n6⟩
   refine ⟨adr vb, rfl, A, L, C, s6.wk.nd hM hB (j := 1) rfl rfl, ?_⟩
   refine ⟨fun i w1 => 0 <= i /\ i <= L /\ Nst c w w1, fun i _ => ((L : Int) - i).toNat, ⟨by omega, by omega, n6⟩, ?_⟩
   rintro i w1 ⟨h0, hi, n1⟩
   have s1 := hw.nst g n1
   refine ⟨fun hlt => ?_, fun _ => key7 w1 n1⟩
   have hlt := of_decide_eq_true hlt
   obtain ⟨p, x, v, hpp, hx, hc, cb, rfl, vb', pos', hMc, hBc, hpv⟩ := hkids.wget s1.wk (fun _ => rfl) h0 hlt
   obtain ⟨k', r', A', L', C', pos2, hMv, hBv⟩ := hpv.blk
   refine ⟨p, hpp, ⟨h0, hlt⟩, _, hc, fun K34 hK34 K40 hK40 => ?_⟩
   have key34 : ∀ w', Nst c w w' -> K34 w' := by
    intro w' n'
    have s' := hw.nst g n'
    refine hK34 w' ⟨adr cb, rfl, _, s'.wk.nd hMc hBc (j := 1) rfl rfl, (IH x (List.mem_of_getElem? hx) vb' w' co vm evs s' he7 hpv).mono ?_⟩
    rintro _ w2 ⟨rfl, n2⟩
    refine ⟨rfl, trivial, ?_⟩
    rw [wrap_lt h0 (by omega)]
    exact next h0 hlt (n'.trans n2)
   obtain ⟨q60, hq60, hg⟩ := val7 s1.wk hM hB rfl
   refine ⟨adr vb, rfl, q60, hq60, fun hs => ?_, fun _ => hK40 false w1 ⟨nofun, fun _ => key34 w1 n1⟩⟩
   rcases hg with rfl | ⟨tb, t, rfl, hpt⟩
   ·cases hs
   cases t with
   | mk tn el nn =>
    simp only [PTyp] at hpt
    obtain ⟨q, post, hMt, hBt, hE⟩ := hpt
    have gE : GTyp c q := by
     cases el with
     | nil => exact .inl (by simpa [PTypE] using hE)
     | cons t l =>
      simp only [PTypE] at hE
      obtain ⟨eb, rfl, ht⟩ := hE
      exact .inr ⟨eb, t, rfl, ht⟩
    refine ⟨adr vb, rfl, _, hq60, adr tb, rfl, q, s1.wk.nd hMt hBt (j := 1) rfl rfl, hK40 _ w1 ⟨fun hb => ?_, fun _ => key34 w1 n1⟩⟩
    intro w43 e43
    have n43 := n1.drew e43
    have s43 := hw.nst g n43
    obtain ⟨q47, hq47, hg47⟩ := val7 s43.wk hM hB rfl
    have e47 : q47 = some (adr tb) := by
     rw [e43] at hq47
     have := hq47.symm.trans hq60
     simpa using this
    subst e47
    refine ⟨adr cb, rfl, _, s43.wk.nd hMc hBc (j := 1) rfl rfl, adr vb, rfl, _, hq47, adr tb, rfl, q, s43.wk.nd hMt hBt (j := 1) rfl rfl, adr vb', rfl, s43.wk.off hMv hBv (j := 7) (n := 1) (by simp), trivial, trivial, fun w52 e52 => ?_⟩
    have n51 := n43.trans (Nst.set s43.wk hMv hBv (note_v7 (b := vb') gE))
    have n52 := n51.drew e52
    have s52 := hw.nst g n52
    obtain ⟨q56, hq56, hg56⟩ := val5 s52.wk hM hB rfl
    exact ⟨adr cb, rfl, _, s52.wk.nd hMc hBc (j := 1) rfl rfl, adr vb, rfl, q56, hq56, adr vb', rfl, s52.wk.off hMv hBv (j := 5) (n := 1) (by simp), trivial, trivial, key34 _ (n52.trans (Nst.set s52.wk hMv hBv (note_v5 (b := vb') hg56)))⟩
  have s4 := hw.nst g n4
  refine ⟨adr vb, rfl, k, s4.wk.nd hM hB (j := 2) rfl rfl, fun _ => ?_, fun _ => key5 w4 n4⟩
  refine ⟨adr vb, rfl, A, L, C, s4.wk.nd hM hB (j := 1) rfl rfl, ?_⟩
  refine ⟨fun i w1 => 0 <= i /\ i <= L /\ Nst c w w1, fun i _ => ((L : Int) - i).toNat, ⟨by omega, by omega, n4⟩, ?_⟩
  rintro i w1 ⟨h0, hi, n1⟩
  have s1 := hw.nst g n1
  refine ⟨fun hlt => ?_, fun _ => key5 w1 n1⟩
  have hlt := of_decide_eq_true hlt
  obtain ⟨p, x, v, hpp, hx, hc, cb, rfl, vb', pos', hMc, hBc, hpv⟩ := hkids.wget s1.wk (fun _ => rfl) h0 hlt
  obtain ⟨k', r', A', L', C', pos2, hMv, hBv⟩ := hpv.blk
  refine ⟨p, hpp, ⟨h0, hlt⟩, _, hc, fun K75 hK75 => ?_⟩
  have key75 : ∀ w', Nst c w w' -> K75 w' := by
   intro w' n'
   have s' := hw.nst g n'
   refine hK75 w' ⟨adr cb, rfl, _, s'.wk.nd hMc hBc (j := 1) rfl rfl, (IH x (List.mem_of_getElem? hx) vb' w' co vm evs s' he7 hpv).mono ?_⟩
   rintro _ w2 ⟨rfl, n2⟩
   refine ⟨rfl, trivial, ?_⟩
   rw [wrap_lt h0 (by omega)]
   exact next h0 hlt (n'.trans n2)
  obtain ⟨q82, hq82, hg⟩ := val5 s1.wk hM hB rfl
  refine ⟨adr vb, rfl, q82, hq82, fun hs => ?_, fun _ => key75 w1 n1⟩
  rcases hg with rfl | ⟨db, d, rfl, hpd, hokd⟩
  ·cases hs
  intro w83 e83
  have n83 := n1.drew e83
  have s83 := hw.nst g n83
  have hq83 : w83.cell? ⟨vb, 5, none⟩ = some (.pointer (some (adr db))) := by rw [e83]; exact hq82
  obtain ⟨_, _, _, _, _, _, A3, L3, C3, _, _, _, _, _, _, pos3, hMd, hBd, -, -, hflds, -⟩ := hpd
  refine ⟨adr vb, rfl, _, hq83, adr db, rfl, _, _, _, s83.wk.nd hMd hBd (j := 5) rfl rfl, adr cb, rfl, _, s83.wk.nd hMc hBc (j := 0) rfl rfl, ?_⟩
  refine (c_ast_FieldList_ForName s83.wk hflds).mono ?_
  rintro _ _ ⟨q92, rfl, rfl, hq92⟩
  refine ⟨q92, rfl, trivial, trivial, trivial, fun hs2 => ?_, fun _ => key75 _ n83⟩
  cases hf : firstN Fld.name d.fields x.1 with
  | none =>
   rw [hf] at hq92
   rw [show q92 = none from hq92] at hs2
   cases hs2
  | some f =>
   rw [hf] at hq92
   obtain ⟨fb, rfl, A1, L1, C1, qd, tb, A6, L6, C6, pos6, hMf, hBf, hargs, hdf, hty, hdirs⟩ := hq92
   have hokf := hokd.2.2.1 f (firstN_mem hf).1
   intro w93 e93
   have n93 := n83.drew e93
   have s93 := hw.nst g n93
   refine ⟨adr cb, rfl, _, s93.wk.nd hMc hBc (j := 1) rfl rfl, adr fb, rfl, _, s93.wk.nd hMf hBf (j := 4) rfl rfl, adr vb', rfl, s93.wk.off hMv hBv (j := 7) (n := 1) (by simp), trivial, trivial, fun K100 hK100 => ?_⟩
   have n99 := n93.trans (Nst.set s93.wk hMv hBv (note_v7 (b := vb') (.inr ⟨tb, f.t, rfl, hty⟩)))
   have key100 : ∀ w', Nst c w w' -> K100 w' := by
    intro w' n'
    refine hK100 w' fun w102 e102 => ?_
    have n102 := n'.drew e102
    have s102 := hw.nst g n102
    obtain ⟨z1, z2, z3, z4⟩ := s102.sch g
    refine ⟨adr cb, rfl, _, s102.wk.nd hMc hBc (j := 1) rfl rfl, adr c.wb, rfl, _, z1, adr c.sb, rfl, _, z2, adr fb, rfl, _, s102.wk.nd hMf hBf (j := 4) rfl rfl, ?_⟩
    refine (c_ast_Type_Name f.t tb w102 s102.wk hty hokf.1).mono ?_
    rintro _ _ ⟨rfl, rfl⟩
    obtain ⟨q114, r114, g114⟩ := z4 (typeName f.t)
    exact ⟨_, rfl, trivial, by simp, q114, r114, adr vb', rfl, s102.wk.off hMv hBv (j := 5) (n := 1) (by simp), trivial, trivial, key75 _ (n102.trans (Nst.set s102.wk hMv hBv (note_v5 (b := vb') g114)))⟩
   intro w117 e117
   have n117 := n99.drew e117
   have s117 := hw.nst g n117
   refine ⟨adr cb, rfl, _, s117.wk.nd hMc hBc (j := 1) rfl rfl, adr fb, rfl, qd, s117.wk.nd hMf hBf (j := 3) rfl rfl, fun hsd => ?_, fun _ => ⟨adr vb', rfl, s117.wk.off hMv hBv (j := 8) (n := 1) (by simp), trivial, trivial, key100 _ (n117.trans (Nst.set s117.wk hMv hBv (note_v8 (b := vb'))))⟩⟩
   cases hdl : f.dflt with
   | nil =>
    rw [hdl] at hdf
    rw [show qd = none from hdf] at hsd
    cases hsd
   | cons dv rest =>
    rw [hdl] at hdf
    obtain ⟨dvb, rfl, hpdv⟩ := hdf
    obtain ⟨kd, rd, Ad, Ld, Cd, posd, hMdv, hBdv⟩ := hpdv.blk
    exact ⟨adr fb, rfl, _, s117.wk.nd hMf hBf (j := 3) rfl rfl, adr dvb, rfl, kd, s117.wk.nd hMdv hBdv (j := 2) rfl rfl, adr vb', rfl, s117.wk.off hMv hBv (j := 8) (n := 1) (by simp), trivial, trivial, key100 _ (n117.trans (Nst.set s117.wk hMv hBv (note_v8 (b := vb'))))⟩
 intro K130 hK130
 refine ⟨adr vb, rfl, k, hw.wk.nd hM hB (j := 2) rfl rfl, fun _ => ?_, fun _ => hK130 false w ⟨nofun, fun _ => key3 w (Nst.refl c w)⟩⟩
 refine ⟨adr c.wb, rfl, co, (hw.walker.at (j := 4) rfl).cell, hK130 _ w ⟨fun hb => ?_, fun _ => key3 w (Nst.refl c w)⟩⟩
 rcases hw.co with rfl | ⟨ob, o, rfl, hpo⟩
 ·cases hb
 intro w133 e133
 have n133 := (Nst.refl c w).drew e133
 have s133 := hw.nst g n133
 obtain ⟨A1, L1, C1, A2, L2, C2, A4, L4, C4, poso, hMo, hBo, hvars, -⟩ := hpo
 refine ⟨adr c.wb, rfl, _, (s133.walker.at (j := 4) rfl).cell, adr ob, rfl, A1, L1, C1, s133.wk.nd hMo hBo (j := 3) rfl rfl, adr vb, rfl, r, s133.wk.nd hM hB (j := 0) rfl rfl, ?_⟩
 refine (c_ast_VariableDefinitionList_ForName s133.wk hvars).mono ?_
 rintro _ _ ⟨q142, rfl, rfl, hq⟩
 have gq : GVar c q142 := by
  cases hf : firstN VarD.name o.vars r with
  | none => rw [hf] at hq; exact .inl hq
  | some vd =>
   rw [hf] at hq
   obtain ⟨bb, rfl, hpv⟩ := hq
   exact .inr ⟨bb, vd, rfl, hpv⟩
 have n144 := n133.trans (Nst.set s133.wk hM hB (note_v6 (b := vb) gq))
 have s144 := hw.nst g n144
 refine ⟨q142, rfl, trivial, trivial, adr vb, rfl, s133.wk.off hM hB (j := 6) (n := 1) (by simp), trivial, trivial, ?_⟩
 have hcell := s133.wk.setcell hM hB (j := 6) (v := .pointer q142) (by simp)
 refine ⟨adr vb, rfl, q142, hcell, fun hs => ?_, fun _ => key3 _ n144⟩
 rcases gq with rfl | ⟨db, d, rfl, hpd⟩
 ·cases hs
 obtain ⟨tb, qd, A6, L6, C6, pos6, hMd, hBd, -⟩ := hpd
 exact ⟨adr vb, rfl, _, hcell, adr db, rfl, s144.wk.off hMd hBd (j := 8) (n := 1) (by simp), trivial, key3 _ (n144.trans (Nst.set s144.wk hMd hBd (note_plain (T := 179) (j := 8) rfl (by decide) (by decide) (by decide))))⟩
theorem c_walkValue {c : WCtx} (g : Good c) : ∀ (x : Val), WV c x
 | .mk k r kids => c_walkValue_step g k r kids fun x hx => by
  have : SizeOf.sizeOf x.2 < 1 + SizeOf.sizeOf k + SizeOf.sizeOf r + SizeOf.sizeOf kids := by
   have h1 := List.sizeOf_lt_of_mem hx
   cases x
   simp at h1 ⊢
   omega
  exact c_walkValue g x.2
 termination_by x => SizeOf.sizeOf x
end Go.VC
namespace Go.VC
open Go Go.Proofs
variable [DB]
theorem c_walkArgument {c : WCtx} (g : Good c) {co : OA} {vm : Nat} {evs : List Value} {w : World} {ad : OA} {x : Argm} {ab : Nat} (hw : Wst c co vm evs w) (he7 : evs[7]? = some (.slice none 0 0))
  (hd : ad = none ∨ ∃ db d, ad = some (adr db) /\ PArgDef c.M c.w0 d db /\ okArgDef d) (ha : PArg c.M c.w0 x ab) :
  CP 140 #[.pointer (some (adr c.wb)), .pointer ad, .pointer (some (adr ab))] w fun e w' => e = .returned (.tuple #[]) /\ Nst c w w' := by
 obtain ⟨vb, pos, hM, hB, hv⟩ := ha
 obtain ⟨k, r, A, L, C, posv, hMv, hBv⟩ := hv.blk
 refine q_core_Walker_walkArgument (some (adr c.wb)) ad (some (adr ab)) w _ fun K4 hK4 => ?_
 have key4 : ∀ w5, Nst c w w5 -> K4 w5 := by
  intro w5 n5
  have s5 := hw.nst g n5
  refine hK4 w5 ⟨adr ab, rfl, _, s5.wk.nd hM hB (j := 1) rfl rfl, (c_walkValue g x.v vb w5 co vm evs s5 he7 hv).mono ?_⟩
  rintro _ w9 ⟨rfl, n9⟩
  exact ⟨rfl, trivial, rfl, n5.trans n9⟩
 refine ⟨fun hs => ?_, fun _ => key4 w (Nst.refl c w)⟩
 rcases hd with rfl | ⟨db, d, rfl, hpd, hok⟩
 ·cases hs
 obtain ⟨qd, tb, A6, L6, C6, pos6, hMd, hBd, hdf, hty, -⟩ := hpd
 intro w10 e10
 have n10 := (Nst.refl c w).drew e10
 have s10 := hw.nst g n10
 refine ⟨adr ab, rfl, _, s10.wk.nd hM hB (j := 1) rfl rfl, adr db, rfl, _, s10.wk.nd hMd hBd (j := 3) rfl rfl, adr vb, rfl, s10.wk.off hMv hBv (j := 7) (n := 1) (by simp), trivial, trivial, fun K17 hK17 => ?_⟩
 have n16 := n10.trans (Nst.set s10.wk hMv hBv (note_v7 (b := vb) (.inr ⟨tb, d.t, rfl, hty⟩)))
 have key17 : ∀ w', Nst c w w' -> K17 w' := by
  intro w' n'
  refine hK17 w' fun w19 e19 => ?_
  have n19 := n'.drew e19
  have s19 := hw.nst g n19
  obtain ⟨z1, z2, z3, z4⟩ := s19.sch g
  refine ⟨adr ab, rfl, _, s19.wk.nd hM hB (j := 1) rfl rfl, adr c.wb, rfl, _, z1, adr c.sb, rfl, _, z2, adr db, rfl, _, s19.wk.nd hMd hBd (j := 3) rfl rfl, ?_⟩
  refine (c_ast_Type_Name d.t tb w19 s19.wk hty hok.1).mono ?_
  rintro _ _ ⟨rfl, rfl⟩
  obtain ⟨q31, r31, g31⟩ := z4 (typeName d.t)
  exact ⟨_, rfl, trivial, by simp, q31, r31, adr vb, rfl, s19.wk.off hMv hBv (j := 5) (n := 1) (by simp), trivial, trivial, key4 _ (n19.trans (Nst.set s19.wk hMv hBv (note_v5 (b := vb) g31)))⟩
 intro w34 e34
 have n34 := n16.drew e34
 have s34 := hw.nst g n34
 refine ⟨adr ab, rfl, _, s34.wk.nd hM hB (j := 1) rfl rfl, adr db, rfl, qd, s34.wk.nd hMd hBd (j := 2) rfl rfl, fun hsd => ?_, fun _ => ⟨adr vb, rfl, s34.wk.off hMv hBv (j := 8) (n := 1) (by simp), trivial, trivial, key17 _ (n34.trans (Nst.set s34.wk hMv hBv (note_v8 (b := vb))))⟩⟩
 cases hdl : d.dflt with
 | nil =>
  rw [hdl] at hdf
  rw [show qd = none from hdf] at hsd
  cases hsd
 | cons dv rest =>
  rw [hdl] at hdf
  obtain ⟨dvb, rfl, hpdv⟩ := hdf
  obtain ⟨kd, rd, Ad, Ld, Cd, posd, hMdv, hBdv⟩ := hpdv.blk
  exact ⟨adr db, rfl, _, s34.wk.nd hMd hBd (j := 2) rfl rfl, adr dvb, rfl, kd, s34.wk.nd hMdv hBdv (j := 2) rfl rfl, adr vb, rfl, s34.wk.off hMv hBv (j := 8) (n := 1) (by simp), trivial, trivial, key17 _ (n34.trans (Nst.set s34.wk hMv hBv (note_v8 (b := vb))))⟩
theorem argdef_of {c : WCtx} {xs : List ArgDef} {n : BA} {q : OA} (hok : ∀ y ∈ xs, okArgDef y) (h : OptQ (PArgDef c.M c.w0) (firstN ArgDef.name xs n) q) : q = none ∨ ∃ db d, q = some (adr db) /\ PArgDef c.M c.w0 d db /\ okArgDef d := by
 cases hf : firstN ArgDef.name xs n with
 | none => rw [hf] at h; exact .inl h
 | some d =>
  rw [hf] at h
  obtain ⟨b, rfl, hp⟩ := h
  exact .inr ⟨b, d, rfl, hp, hok d (firstN_mem hf).1⟩
theorem dlook {c : WCtx} {w1 : World} {N : Nat} {dm : List (BA × Value)} (h : SMap w1 N dm) {P : DirDef -> Nat -> Prop} {dirs : List DirDef} (hn : NMap DirDef.name P dirs dm) (u : BA) : ∃ q, (Instr.lookup 203 (.map (some N)) (.string u) false).run Tryz.prog w1 = .ok (.pointer q) w1 /\ OptQ P (lastN DirDef.name dirs u) q := by
 obtain ⟨q, hq, ho⟩ := hn.look u
 refine ⟨q, ?_, ho⟩
 have := run_lookup (t := 203) (kt := 9) (e := 223) (u := u) (i := Tryz.t223) (by kernel_rfl) (by kernel_rfl) (by kernel_rfl) rfl h false
 rw [this]
 show Result.ok ((mget dm u).getD (.pointer none)) w1 = _
 rw [hq]
theorem c_walkDirectives {c : WCtx} (g : Good c) {co : OA} {vm : Nat} {evs : List Value} {w : World} {pd : OA} {A : OA} {L C : Nat} {xs : List Dir} {loc : BA} (hw : Wst c co vm evs w)
  (he5 : evs[5]? = some (.slice none 0 0)) (he6 : evs[6]? = some (.slice none 0 0)) (he7 : evs[7]? = some (.slice none 0 0)) (hx : PDirs c.M c.w0 A L C xs) :
  CP 127 #[.pointer (some (adr c.wb)), .pointer pd, .slice A L C, .string loc] w fun e w' => e = .returned (.tuple #[]) /\ Nst c w w' := by
 have hl2 := hx.2.2.1
 refine q_core_Walker_walkDirectives (some (adr c.wb)) pd A L C loc w _ ⟨fun i w1 => 0 <= i /\ i <= L /\ Nst c w w1, fun i _ => ((L : Int) - i).toNat, ⟨by omega, by omega, Nst.refl c w⟩, ?_⟩
 rintro i w8 ⟨h0, hi, n8⟩
 have s8 := hw.nst g n8
 refine ⟨fun hlt => ?_, fun _ => ?_⟩
 ·have hlt := of_decide_eq_true hlt
  obtain ⟨p, x, v, hpp, hxx, hc, db, rfl, A2, L2, C2, pos, hM, hB, hargs⟩ := hx.wget s8.wk (fun _ => rfl) h0 hlt
  have hL2 := hargs.2.2.1
  refine ⟨p, hpp, ⟨h0, hlt⟩, _, hc, fun w11 e11 => ?_⟩
  have n11 := n8.drew e11
  have s11 := hw.nst g n11
  obtain ⟨z1, z2, z3, z4⟩ := s11.sch g
  obtain ⟨q18, r18, o18⟩ := dlook (c := c) (s11.wk.smap g.m2.1 g.m2.2.1) g.m2.2.2 x.name
  have n20 := n11.trans (Nst.set (v := .pointer q18) s11.wk hM hB (note_plain (T := 266) (j := 4) rfl (by decide) (by decide) (by decide)))
  have s20 := hw.nst g n20
  have n22 := n20.trans (Nst.set (v := .pointer pd) s20.wk hM hB (note_plain (T := 266) (j := 3) rfl (by decide) (by decide) (by decide)))
  have s22 := hw.nst g n22
  have n24 := n22.trans (Nst.set (v := .string loc) s22.wk hM hB (note_plain (T := 266) (j := 5) rfl (by decide) (by decide) (by decide)))
  have s24 := hw.nst g n24
  refine ⟨adr c.wb, rfl, _, z1, adr c.sb, rfl, _, z3, adr db, rfl, _, s11.wk.nd hM hB (j := 0) rfl rfl, q18, r18, trivial, adr db, rfl, s11.wk.off hM hB (j := 4) (n := 1) (by simp), trivial, adr db, rfl, s20.wk.off hM hB (j := 3) (n := 1) (by simp), trivial, adr db, rfl, s22.wk.off hM hB (j := 5) (n := 1) (by simp), trivial, adr db, rfl, A2, L2, C2, s24.wk.nd hM hB (j := 1) rfl rfl, ?_⟩
  refine ⟨fun j w1 => 0 <= j /\ j <= L2 /\ Nst c w w1, fun j _ => ((L2 : Int) - j).toNat, ⟨by omega, by omega, n24⟩, ?_⟩
  rintro j w30 ⟨k0, kj, n30⟩
  have s30 := hw.nst g n30
  refine ⟨fun klt => ?_, fun _ => ?_⟩
  ·have klt := of_decide_eq_true klt
   obtain ⟨p2, x2, v2, hpp2, hxx2, hc2, ab, rfl, harg⟩ := hargs.wget s30.wk (fun _ => rfl) k0 klt
   refine ⟨p2, hpp2, ⟨k0, klt⟩, _, hc2, fun K33 hK33 => ?_⟩
   have key33 : ∀ q w', Nst c w w' -> (q = none ∨ ∃ db d, q = some (adr db) /\ PArgDef c.M c.w0 d db /\ okArgDef d) -> K33 q w' := by
    intro q w' n' hq
    refine hK33 q w' ((c_walkArgument g (hw.nst g n') he7 hq harg).mono ?_)
    rintro _ w2 ⟨rfl, n2⟩
    refine ⟨rfl, trivial, ?_⟩
    rw [wrap_lt k0 (by omega)]
    exact next k0 klt (n'.trans n2)
   refine ⟨fun hs => ?_, fun _ => key33 none w30 n30 (.inl rfl)⟩
   cases hl : lastN DirDef.name c.dirs x.name with
   | none =>
    rw [hl] at o18
    rw [show q18 = none from o18] at hs
    cases hs
   | some dd =>
    rw [hl] at o18
    obtain ⟨ddb, rfl, A1, L1, C1, A3, L3, C3, pos3, hMd, hBd, hads, -⟩ := o18
    intro w38 e38
    have n38 := n30.drew e38
    have s38 := hw.nst g n38
    have harg' := harg
    obtain ⟨vb2, pos2, hMa, hBa, -⟩ := harg'
    refine ⟨adr ddb, rfl, A1, L1, C1, s38.wk.nd hMd hBd (j := 2) rfl rfl, adr ab, rfl, _, s38.wk.nd hMa hBa (j := 0) rfl rfl, ?_⟩
    refine (c_ast_ArgumentDefinitionList_ForName s38.wk hads).mono ?_
    rintro _ _ ⟨q45, rfl, rfl, hq45⟩
    exact ⟨q45, rfl, trivial, trivial, trivial, key33 q45 _ n38 (argdef_of (g.okd dd (lastN_mem hl)) hq45)⟩
  ·refine ⟨adr c.wb, rfl, _, (s30.walker.at (j := 0) rfl).cell, adr c.eb, rfl, none, 0, 0, (s30.events.at (j := 5) he5).cell, ?_⟩
   refine ⟨fun n w1 => n = 0 /\ w1 = w30, fun _ _ => 0, ⟨rfl, rfl⟩, ?_⟩
   rintro _ _ ⟨rfl, rfl⟩
   refine ⟨fun h => absurd (of_decide_eq_true h) (by omega), fun _ => ?_⟩
   rw [wrap_lt h0 (by omega)]
   exact next h0 hlt n30
 ·refine ⟨adr c.wb, rfl, _, (s8.walker.at (j := 0) rfl).cell, adr c.eb, rfl, none, 0, 0, (s8.events.at (j := 6) he6).cell, ?_⟩
  refine ⟨fun n w1 => n = 0 /\ w1 = w8, fun _ _ => 0, ⟨rfl, rfl⟩, ?_⟩
  rintro _ _ ⟨rfl, rfl⟩
  exact ⟨fun h => absurd (of_decide_eq_true h) (by omega), fun _ => ⟨rfl, n8⟩⟩
end Go.VC
