/- Part of the proof of a law of a rule over documents (WalkB), where what the arguments hold is of bulk at most 1048576. -/
import Derived.Test.YtgckkmmljfioaaaGreatWalkA
set_option linter.unusedVariables false
set_option linter.unusedSimpArgs false
set_option linter.unusedSectionVars false
set_option linter.deprecated false
namespace Go.VC
open Go Go.Proofs
variable [DB]
theorem Wk.setat {c : WCtx} {w : World} (hwk : Wk c c.w0 w) {b : Nat} {T : TypeId} {cs : List Value} (hM : c.M b) (hB : Blk c.w0 b T cs) {j : Nat} {v : Value} (hj : j < cs.length) : At (w.setCell ⟨b, j, none⟩ v) T ⟨b, j, none⟩ v := by
 obtain ⟨cs', h1, h2, h3⟩ := hwk.cells _ _ _ _ hM hB
 have := objAt_setCell_eq (v := v) (a := ⟨b, j, none⟩) h1 rfl
 have hsz : j < cs'.size := by rw [h2]; simpa using hj
 exact ⟨_, _, this, rfl, by simp [Array.getElem?_setIfInBounds, hsz]⟩
theorem spL_mem {s : Sel} {n : BA} (h : n ∈ spS s) : ∀ {l : List Sel}, s ∈ l -> n ∈ spL l
 | t :: l, hs => by
  simp only [spL]
  rcases List.mem_cons.1 hs with rfl | hs
  ·exact List.mem_append.2 (.inl h)
  ·exact List.mem_append.2 (.inr (spL_mem h hs))
theorem spL_take {l : List Sel} {i : Int} {x : Sel} (h0 : 0 <= i) (hx : l[i.toNat]? = some x) : spL (l.take (i + 1).toNat) = spL (l.take i.toNat) ++ spS x := by
 have h1 : ∀ a b, spL (a ++ b) = spL a ++ spL b := by
  intro a b
  induction a with
  | nil => rfl
  | cons s a ih => simp [spL, ih]
 rw [show (i + 1).toNat = i.toNat + 1 by omega, List.take_succ, hx, h1]
 simp [spL]
def AllSp (c : WCtx) (n : BA) : Prop := (∃ o ∈ c.ops, n ∈ spL o.kids) ∨ ∃ f ∈ c.frags, n ∈ spL f.kids
def spEv (c : WCtx) (n : BA) : Ev := .spread n (firstN Frag.name c.frags n).isSome
def isSpread : Ev -> Bool
 | .spread _ _ => true
 | _ => false
def VM (w : World) (b : Nat) (vs : List BA) : Prop := ∃ m, SMap w b m /\ ∀ k, (k ∈ vs -> mget m k = some (.bool true)) /\ (k ∉ vs -> mget m k = none)
theorem VM.ext {X : Nat -> Prop} {w w' : World} {b : Nat} {vs : List BA} (h : VM w b vs) (hx : Ext X w w') (hb : ¬ X b) : VM w' b vs := by
 obtain ⟨m, h1, h2⟩ := h
 exact ⟨m, h1.ext hx hb, h2⟩
theorem VM.not_at {w : World} {b : Nat} {vs : List BA} (h : VM w b vs) {T : TypeId} {a : Addr} {v : Value} (ha : At w T a v) : a.block ≠ b := by
 intro e
 obtain ⟨m, ⟨ents, cl, h1, -⟩, -⟩ := h
 obtain ⟨cs, fr, h2, -⟩ := ha
 rw [e, h1] at h2
 cases h2
theorem VM.look {w : World} {b : Nat} {vs : List BA} (h : VM w b vs) (u : BA) : ∃ z : Bool, (Instr.lookup 165 (.map (some b)) (.string u) false).run Tryz.prog w = .ok (.bool z) w /\ (z = true ↔ u ∈ vs) := by
 obtain ⟨m, h1, h2⟩ := h
 have r := run_lookup (t := 165) (kt := 9) (e := 4) (u := u) (i := Tryz.t4) (by kernel_rfl) (by kernel_rfl) (by kernel_rfl) rfl h1 false
 by_cases hu : u ∈ vs
 ·refine ⟨true, ?_, by simp [hu]⟩
  rw [r]
  show Result.ok ((mget m u).getD (.bool false)) w = _
  rw [(h2 u).1 hu]
  rfl
 ·refine ⟨false, ?_, by simp [hu]⟩
  rw [r]
  show Result.ok ((mget m u).getD (.bool false)) w = _
  rw [(h2 u).2 hu]
  rfl
theorem VM.put {w : World} {b : Nat} {vs : List BA} (h : VM w b vs) (u : BA) : ∃ w', (Instr.mapUpdate 165 (.map (some b)) (.string u) (.bool true)).run Tryz.prog w = .ok () w' /\ VM w' b (u :: vs) /\ Ext (fun k => k = b) w w' := by
 obtain ⟨m, h1, h2⟩ := h
 obtain ⟨w5, r5, hs5, x5⟩ := run_update (t := 165) (kt := 9) (e := 4) (u := u) (v := .bool true) (by kernel_rfl) (by kernel_rfl) h1
 refine ⟨w5, r5, ⟨_, hs5, fun k => ?_⟩, x5⟩
 rw [mget_mput]
 by_cases hk : k = u
 ·simp [hk]
 ·simp only [hk, if_false, List.mem_cons, false_or]
  exact h2 k
structure OC where
 co : OA
 vm : Nat
 evs : List Value
 obs : Bool
 A4 : OA
 L4 : Nat
 C4 : Nat
structure EvZ (o : OC) : Prop where
 e1 : o.evs[1]? = some (.slice none 0 0)
 e3 : o.evs[3]? = some (.slice none 0 0)
 e4 : o.evs[4]? = some (.slice o.A4 o.L4 o.C4)
 e5 : o.evs[5]? = some (.slice none 0 0)
 e6 : o.evs[6]? = some (.slice none 0 0)
 e7 : o.evs[7]? = some (.slice none 0 0)
 e8 : o.evs[8]? = some (.slice none 0 0)
structure Wd (c : WCtx) (o : OC) (vs : List BA) (l : List Ev) (w : World) : Prop where
 st : Wst c o.co o.vm o.evs w
 vm : VM w o.vm vs
 nd : vs.Nodup
 sub : ∀ n ∈ vs, n ∈ c.frags.map Frag.name
 ev : c.St l w
 vis : Vis c w o.A4 o.L4 o.obs isSpread
theorem Wd.nst {c : WCtx} {o : OC} {vs : List BA} {l : List Ev} {w w' : World} (g : Good c) (h : Wd c o vs l w) (n : Nst c w w') : Wd c o vs l w' :=
 ⟨h.st.nst g n, h.vm.ext n.ext h.st.vm.2.2.2.1, h.nd, h.sub, n.st g h.ev, h.vis.step n.ext fun b T a v _ e hM _ => hM⟩
theorem Wd.v {c : WCtx} {o : OC} {vs : List BA} {l l' : List Ev} {w w' : World} (g : Good c) (h : Wd c o vs l w) (n : Ext c.V w w') (hl : c.St l' w') : Wd c o vs l' w' :=
 ⟨h.st.step g (Stp.ofV g n), h.vm.ext n h.st.vm.2.2.2.2, h.nd, h.sub, hl, h.vis.step n fun b T a v _ e _ hV => hV⟩
theorem Wd.put {c : WCtx} {o : OC} {vs : List BA} {l : List Ev} {w : World} (g : Good c) (h : Wd c o vs l w) {u : BA} (hu : u ∉ vs) (hf : u ∈ c.frags.map Frag.name) :
  ∃ w', (Instr.mapUpdate 165 (.map (some o.vm)) (.string u) (.bool true)).run Tryz.prog w = .ok () w' /\ Wd c o (u :: vs) l w' /\ Stp c o.vm w w' := by
 obtain ⟨w', r, hv, hx⟩ := h.vm.put u
 have s : Stp c o.vm w w' := ⟨hx.mono fun b _ e => .inr (.inr e), Wk.ofExt hx fun b hM e => h.st.vm.2.2.2.1 (e ▸ hM)⟩
 exact ⟨w', r, ⟨h.st.step g s, hv, List.nodup_cons.2 ⟨hu, h.nd⟩, fun n hn => (List.mem_cons.1 hn).elim (fun e => e ▸ hf) (h.sub n), g.st l w w' h.ev (hx.mono fun b _ e hV => h.st.vm.2.2.2.2 (e ▸ hV)), h.vis.step hx fun b T a v ha e _ _ he => h.vm.not_at ha (e.trans he)⟩, s⟩
def potF (vs : List BA) (f : Frag) : Nat := bif vs.any fun u => decide (u = f.name) then 0 else (spL f.kids).length
def pot (c : WCtx) (vs : List BA) : Nat := (c.frags.map (potF vs)).sum
theorem potF_in {vs : List BA} {f : Frag} (h : f.name ∈ vs) : potF vs f = 0 := by
 have : (vs.any fun u => decide (u = f.name)) = true := List.any_eq_true.2 ⟨_, h, by simp⟩
 rw [potF, this]; rfl
theorem potF_out {vs : List BA} {f : Frag} (h : f.name ∉ vs) : potF vs f = (spL f.kids).length := by
 have : (vs.any fun u => decide (u = f.name)) = false := List.any_eq_false.2 fun u hu => by
  simp only [decide_eq_true_eq]
  exact fun e => h (e ▸ hu)
 rw [potF, this]; rfl
theorem potF_le (u : BA) (vs : List BA) (f : Frag) : potF (u :: vs) f <= potF vs f := by
 by_cases h : f.name ∈ u :: vs
 ·rw [potF_in h]; omega
 ·rw [potF_out h, potF_out fun h' => h (List.mem_cons_of_mem _ h')]; omega
theorem pot_put {c : WCtx} {vs : List BA} {f : Frag} (hf : f ∈ c.frags) (hn : f.name ∉ vs) : pot c (f.name :: vs) + (spL f.kids).length <= pot c vs := by
 have h1 : ∀ xs : List Frag, (xs.map (potF (f.name :: vs))).sum <= (xs.map (potF vs)).sum := by
  intro xs
  induction xs with
  | nil => simp
  | cons x xs ih =>
   simp only [List.map_cons, List.sum_cons]
   have := potF_le f.name vs x
   omega
 have h2 : ∀ xs : List Frag, f ∈ xs -> (xs.map (potF (f.name :: vs))).sum + (spL f.kids).length <= (xs.map (potF vs)).sum := by
  intro xs
  induction xs with
  | nil => intro h; simp at h
  | cons x xs ih =>
   intro h
   simp only [List.map_cons, List.sum_cons]
   rcases List.mem_cons.1 h with rfl | h
   ·have := h1 xs
    rw [potF_in (List.mem_cons_self ..), potF_out hn]
    omega
   ·have := ih h
    have := potF_le f.name vs x
    omega
 exact h2 c.frags hf
def Wr (c : WCtx) (o : OC) (vs : List BA) (l : List Ev) (w : World) (need : List BA) (w' : World) : Prop :=
 Stp c o.vm w w' /\ ∃ vs' evs', Wd c o vs' (l ++ evs') w' /\ vs.length <= vs'.length /\ (∀ e ∈ evs', ∃ n, AllSp c n /\ e = spEv c n) /\ (o.obs = true -> ∀ n ∈ need, spEv c n ∈ evs') /\ (o.obs = false -> evs' = []) /\ evs'.length + pot c vs' <= need.length + pot c vs
theorem Wr.refl {c : WCtx} {o : OC} {vs : List BA} {l : List Ev} {w : World} (h : Wd c o vs l w) : Wr c o vs l w [] w :=
 ⟨Stp.refl c o.vm w, vs, [], by simpa using h, Nat.le_refl _, by simp, by simp, fun _ => rfl, Nat.le_refl _⟩
theorem Wr.nst {c : WCtx} {o : OC} {vs : List BA} {l : List Ev} {w w' w'' : World} {need : List BA} (g : Good c) (h : Wr c o vs l w need w') (n : Nst c w' w'') : Wr c o vs l w need w'' := by
 obtain ⟨h1, vs', evs', h2, h3, h4, h5⟩ := h
 exact ⟨h1.trans n.stp, vs', evs', h2.nst g n, h3, h4, h5⟩
theorem Wr.after {c : WCtx} {o : OC} {vs : List BA} {l : List Ev} {w w' w'' : World} {need : List BA} (n : Stp c o.vm w w') (h : Wr c o vs l w' need w'') : Wr c o vs l w need w'' := by
 obtain ⟨h1, h2⟩ := h
 exact ⟨n.trans h1, h2⟩
theorem Wr.then {c : WCtx} {o : OC} {vs : List BA} {l : List Ev} {w w' : World} {need need' : List BA} (h : Wr c o vs l w need w') {P : World -> Prop}
  (k : ∀ vs' evs', Wd c o vs' (l ++ evs') w' -> vs.length <= vs'.length -> ∀ w'', Wr c o vs' (l ++ evs') w' need' w'' -> Wr c o vs l w (need ++ need') w'' -> P w'') : ∃ vs' evs', Wd c o vs' (l ++ evs') w' /\ vs.length <= vs'.length /\ ∀ w'', Wr c o vs' (l ++ evs') w' need' w'' -> P w'' := by
 obtain ⟨h1, vs', evs', h2, h3, h4, h5, h6, h7⟩ := h
 refine ⟨vs', evs', h2, h3, fun w'' hk => k vs' evs' h2 h3 w'' hk ?_⟩
 obtain ⟨k1, vs2, evs2, k2, k3, k4, k5, k6, k7⟩ := hk
 refine ⟨h1.trans k1, vs2, evs' ++ evs2, by rwa [<- List.append_assoc], Nat.le_trans h3 k3, fun e he => ?_, fun ho n hn => ?_, fun ho => by rw [h6 ho, k6 ho]; rfl, by simp only [List.length_append]; omega⟩
 ·rcases List.mem_append.1 he with he | he
  ·exact h4 e he
  ·exact k4 e he
 ·rcases List.mem_append.1 hn with hn | hn
  ·exact List.mem_append.2 (.inl (h5 ho n hn))
  ·exact List.mem_append.2 (.inr (k5 ho n hn))
abbrev WSel (c : WCtx) (m : Nat) (s : Sel) : Prop := ∀ (v : Value) (pq : OA) (w : World) (o : OC) (vs : List BA) (l : List Ev), Wd c o vs l w -> EvZ o -> GDef c pq -> c.frags.length < m + vs.length -> PSel c.M c.w0 s v -> (∀ n ∈ spS s, AllSp c n) ->
 CP 141 #[.pointer (some (adr c.wb)), .pointer pq, v] w fun e w' => e = .returned (.tuple #[]) /\ Wr c o vs l w (spS s) w'
abbrev WSels (c : WCtx) (m : Nat) (ks : List Sel) : Prop := ∀ (A : OA) (L C : Nat) (pq : OA) (w : World) (o : OC) (vs : List BA) (l : List Ev), Wd c o vs l w -> EvZ o -> GDef c pq -> c.frags.length < m + vs.length -> PSels c.M c.w0 A L C ks -> (∀ n ∈ spL ks, AllSp c n) ->
 CP 128 #[.pointer (some (adr c.wb)), .pointer pq, .slice A L C] w fun e w' => e = .returned (.tuple #[]) /\ Wr c o vs l w (spL ks) w'
theorem c_walkSelectionSet {c : WCtx} (g : Good c) {m : Nat} {ks : List Sel} (IH : ∀ s ∈ ks, WSel c m s) : WSels c m ks := by
 intro A L C pq w o vs l hw ez gp hm hp hall
 have hl := hp.1
 have hl2 := hp.2.2.1
 refine q_core_Walker_walkSelectionSet (some (adr c.wb)) pq A L C w _ ⟨fun i w1 => 0 <= i /\ i <= L /\ Wr c o vs l w (spL (ks.take i.toNat)) w1, fun i _ => ((L : Int) - i).toNat, ⟨by omega, by omega, by simpa [spL] using Wr.refl hw⟩, ?_⟩
 rintro i w7 ⟨h0, hi, hr⟩
 refine ⟨fun hlt => ?_, fun hge => ?_⟩
 ·have hlt := of_decide_eq_true hlt
  have hr' := hr
  obtain ⟨s7, vs', evs', hw7, hv7, -⟩ := hr'
  obtain ⟨p, x, v, hpp, hx, hc, hps⟩ := hp.wget hw7.st.wk (fun _ => rfl) h0 hlt
  have hmem := List.mem_of_getElem? hx
  obtain ⟨vs2, evs2, hw2, hv2, hthen⟩ := hr.then (need' := spS x) (P := fun w'' => Wr c o vs l w (spL (ks.take i.toNat) ++ spS x) w'') fun _ _ _ _ _ _ h => h
  have call := IH x hmem v pq w7 o vs2 (l ++ evs2) hw2 ez gp (by omega) hps fun n hn => hall n (spL_mem hn hmem)
  have hifc : ∃ o9, v = ifcV o9 := by
   cases x
   simp only [PSel] at hps
   rcases hps with ⟨-, b, _, _, _, _, _, _, _, _, _, pos, rfl, -⟩ | ⟨-, b, _, _, _, pos, rfl, -⟩ | ⟨-, b, _, _, _, _, _, _, pos, rfl, -⟩
   ·exact ⟨some (_, _), rfl⟩
   ·exact ⟨some (_, _), rfl⟩
   ·exact ⟨some (_, _), rfl⟩
  obtain ⟨o9, rfl⟩ := hifc
  refine ⟨p, hpp, ⟨h0, hlt⟩, o9, hc, call.mono ?_⟩
  rintro _ w11 ⟨rfl, h11⟩
  refine ⟨rfl, trivial, ?_⟩
  rw [wrap_lt h0 (by omega)]
  refine next h0 hlt ?_
  rw [spL_take h0 hx]
  exact hthen w11 h11
 ·have hle := of_decide_eq_false hge
  rw [List.take_of_length_le (by omega)] at hr
  exact ⟨rfl, hr⟩
end Go.VC
namespace Go.VC
open Go Go.Proofs
variable [DB]
def GFld (c : WCtx) (q : OA) (w : World) : Prop := q = none ∨ ∃ (fb : Nat) (A : OA) (L C : Nat) (xs : List ArgDef) (qt : OA), q = some (adr fb) /\ PArgDefs c.M c.w0 A L C xs /\ (∀ y ∈ xs, okArgDef y) /\
 ∀ w', Nst c w w' -> w'.cell? ⟨fb, 2, none⟩ = some (.slice A L C) /\ w'.cell? ⟨fb, 4, none⟩ = some (.pointer qt) /\ ∃ s, CP 125 #[.pointer qt] w' fun e w'' => e = .returned (.string s) /\ w'' = w'
theorem GFld.nst {c : WCtx} {q : OA} {w w' : World} (h : GFld c q w) (n : Nst c w w') : GFld c q w' := by
 rcases h with h | ⟨fb, A, L, C, xs, qt, h1, h2, h3, h4⟩
 ·exact .inl h
 ·exact .inr ⟨fb, A, L, C, xs, qt, h1, h2, h3, fun w'' n' => h4 w'' (n.trans n')⟩
theorem GFld.real {c : WCtx} {w : World} (hwk : Wk c c.w0 w) {f : Fld} {fb : Nat} (hp : PFld c.M c.w0 f fb) (hok : okFld f) : GFld c (some (adr fb)) w := by
 obtain ⟨A1, L1, C1, qd, tb, A6, L6, C6, pos6, hMf, hBf, hargs, hdf, hty, hdirs⟩ := hp
 refine .inr ⟨fb, A1, L1, C1, f.args, some (adr tb), rfl, hargs, hok.2.2.2, fun w' n => ?_⟩
 have k := hwk.trans n.wk
 exact ⟨k.nd hMf hBf (j := 2) rfl rfl, k.nd hMf hBf (j := 4) rfl rfl, _, c_ast_Type_Name f.t tb w' k hty hok.1⟩
theorem GFld.fresh {c : WCtx} {w : World} (g : Good c) {fb tb : Nat} {s : BA} {cs cs' : List Value} (hs : s ≠ E0) (h1 : Blk w fb 289 cs) (h2 : Blk w tb 297 (.string s :: cs')) (c2 : cs[2]? = some (.slice none 0 0)) (c4 : cs[4]? = some (.pointer (some (adr tb)))) (n1 : ¬ c.M fb) (n2 : ¬ c.M tb) : GFld c (some (adr fb)) w := by
 refine .inr ⟨fb, none, 0, 0, [], some (adr tb), rfl, ⟨rfl, by omega, by omega, fun i x h => by simp at h⟩, fun y hy => by simp at hy, fun w' n => ?_⟩
 have k1 := h1.ext n.ext n1
 have k2 := h2.ext n.ext n2
 refine ⟨(k1.at (j := 2) c2).cell, (k1.at (j := 4) c4).cell, s, ?_⟩
 have c0 := (k2.at (j := 0) rfl).cell
 refine q_ast_Type_Name (some (adr tb)) w' _ ⟨adr tb, rfl, s, c0, fun _ => ⟨adr tb, rfl, s, c0, rfl, rfl⟩, fun h => ?_⟩
 exact absurd (nbeq_f h) hs
theorem OptR.look {α : Type} {P : α -> Nat -> Prop} {d : Option α} {v : Option Value} (h : OptR P d v) : ∃ q, v.getD (.pointer none) = .pointer q /\ OptQ P d q := by
 cases d with
 | none =>
  cases v with
  | none => exact ⟨none, rfl, rfl⟩
  | some v => exact h.elim
 | some d =>
  cases v with
  | none => exact h.elim
  | some v =>
   obtain ⟨b, rfl, hp⟩ := h
   exact ⟨_, rfl, b, rfl, hp⟩
theorem OptQ.isSome {α : Type} {P : α -> Nat -> Prop} {d : Option α} {q : OA} (h : OptQ P d q) : q.isSome = d.isSome := by
 cases d with
 | none => rw [show q = none from h]; rfl
 | some d =>
  obtain ⟨b, rfl, -⟩ := h
  rfl
theorem Wst.flook {c : WCtx} {co : OA} {vm : Nat} {evs : List Value} {w : World} (h : Wst c co vm evs w) (u : BA) : ∃ q, (Instr.lookup 166 (.map (some c.fm)) (.string u) false).run Tryz.prog w = .ok (.pointer q) w /\ OptQ (PFrag c.M c.w0) (firstN Frag.name c.frags u) q := by
 obtain ⟨q, hq, ho⟩ := (h.frags.2 u).look
 refine ⟨q, ?_, ho⟩
 have := run_lookup (t := 166) (kt := 9) (e := 129) (u := u) (i := Tryz.t129) (by kernel_rfl) (by kernel_rfl) (by kernel_rfl) rfl h.frags.1 false
 rw [this]
 show Result.ok ((mget c.fl u).getD (.pointer none)) w = _
 rw [hq]
theorem noteOK.spread {c : WCtx} {b : Nat} {v : Value} (h : noteOK c b 133 3 v) {n : BA} {cs : List Value} (hB : Blk c.w0 b 133 (.string n :: cs)) : ∃ q, v = .pointer q /\ OptQ (PFrag c.M c.w0) (firstN Frag.name c.frags n) q := by
 obtain ⟨q, h1, h2⟩ := h.2.2.2.2.2 ⟨rfl, rfl⟩
 exact ⟨q, h1, h2 n cs hB⟩
theorem note_s3 {c : WCtx} {b : Nat} {n : BA} {cs : List Value} {q : OA} (hB : Blk c.w0 b 133 (.string n :: cs)) (h : OptQ (PFrag c.M c.w0) (firstN Frag.name c.frags n) q) : noteOK c b 133 3 (.pointer q) := by
 refine ⟨rfl, fun h => absurd h.1 (by decide), fun h => absurd h.1 (by decide), fun h => absurd h.1 (by decide), fun h => absurd h.1 (by decide), fun _ => ⟨q, rfl, fun n' cs' hB' => ?_⟩⟩
 have e : n' = n := by
  have h1 : At c.w0 133 ⟨b, 0, none⟩ (.string n) := hB.at (j := 0) rfl
  have h2 : At c.w0 133 ⟨b, 0, none⟩ (.string n') := hB'.at (j := 0) rfl
  have := h1.cell.symm.trans h2.cell
  simpa using this.symm
 rw [e]
 exact h
theorem c_walkField {c : WCtx} (g : Good c) {m : Nat} (al n on : BA) (args : List Argm) (dirs : List Dir) (kids : List Sel) (IH : WSels c m kids) : WSel c m (.mk 0 al n on args dirs kids) := by
 intro v pq w o vs l hw ez gp hm hp hall
 simp only [PSel] at hp
 rcases hp with ⟨-, b, A1, L1, C1, A2, L2, C2, A3, L3, C3, pos, rfl, hM, hB, hargs, hdirs, hL3, hC3, hs3, hkids⟩ | ⟨h, -⟩ | ⟨h, -⟩
 rotate_left
 ·simp at h
 ·simp at h
 have hkids := PSels'_iff.1 ⟨hL3, hC3, hs3, hkids⟩
 have hL1 := hargs.2.2.1
 refine q_core_Walker_walkSelection (some (adr c.wb)) pq (some (267, .pointer (some (adr b)))) w _ fun K4 hK4 => ?_
 refine ⟨fun u hu => ⟨some (adr b), by cases hu; rfl, hK4 true _ w ⟨fun _ => ?_, nofun⟩⟩, fun hn => absurd rfl (hn _)⟩
 intro K8 hK8
 have key8 : ∀ q w', Nst c w w' -> GFld c q w' -> K8 q w' := by
  intro q w' n' gq
  have d' := hw.nst g n'
  have n12 := Nst.set (v := .pointer q) d'.st.wk hM hB (note_plain (T := 270) (j := 7) rfl (by decide) (by decide) (by decide))
  have d12 := d'.nst g n12
  have n14 := Nst.set (v := .pointer pq) d12.st.wk hM hB (note_plain (T := 270) (j := 8) rfl (by decide) (by decide) (by decide))
  have d14 := d12.nst g n14
  refine hK8 q w' ⟨adr b, rfl, d'.st.wk.off hM hB (j := 7) (n := 1) (by simp), trivial, adr b, rfl, d12.st.wk.off hM hB (j := 8) (n := 1) (by simp), trivial, fun K15 hK15 => ?_⟩
  have m14 : Nst c w _ := n'.trans (n12.trans n14)
  have g14 := gq.nst (n12.trans n14)
  generalize hw14 : ((w'.setCell ((adr b).add 7) (.pointer q)).setCell ((adr b).add 8) (.pointer pq)) = w14
  replace d14 : Wd c o vs l w14 := by rw [<- hw14]; exact d14
  replace m14 : Nst c w w14 := by rw [<- hw14]; exact m14
  replace g14 : GFld c q w14 := by rw [<- hw14]; exact g14
  clear hw14
  have key15 : ∀ qn w17, Nst c w14 w17 -> GDef c qn -> K15 qn w17 := by
   intro qn w17 n17 gqn
   have d17 := d14.nst g n17
   refine hK15 qn w17 ⟨adr b, rfl, A1, L1, C1, d17.st.wk.nd hM hB (j := 2) rfl rfl, ?_⟩
   refine ⟨fun i w1 => 0 <= i /\ i <= L1 /\ Nst c w14 w1, fun i _ => ((L1 : Int) - i).toNat, ⟨by omega, by omega, n17⟩, ?_⟩
   rintro i w23 ⟨h0, hi, n23⟩
   have d23 := d14.nst g n23
   refine ⟨fun hlt => ?_, fun _ => ?_⟩
   ·have hlt := of_decide_eq_true hlt
    obtain ⟨p, x, v, hpp, hx, hc, ab, rfl, harg⟩ := hargs.wget d23.st.wk (fun _ => rfl) h0 hlt
    refine ⟨p, hpp, ⟨h0, hlt⟩, _, hc, fun K26 hK26 => ?_⟩
    have key26 : ∀ q w', Nst c w14 w' -> (q = none ∨ ∃ db d, q = some (adr db) /\ PArgDef c.M c.w0 d db /\ okArgDef d) -> K26 q w' := by
     intro q w' n' hq
     refine hK26 q w' ((c_walkArgument g (d14.nst g n').st ez.e7 hq harg).mono ?_)
     rintro _ w2 ⟨rfl, n2⟩
     refine ⟨rfl, trivial, ?_⟩
     rw [wrap_lt h0 (by omega)]
     exact next h0 hlt (n'.trans n2)
    refine ⟨fun hs => ?_, fun _ => key26 none w23 n23 (.inl rfl)⟩
    rcases g14 with rfl | ⟨fb, A, L, C, xs, qt, rfl, hads, hokads, hcells⟩
    ·cases hs
    intro w31 e31
    have n31 := n23.drew e31
    have d31 := d14.nst g n31
    have harg' := harg
    obtain ⟨vb2, pos2, hMa, hBa, -⟩ := harg'
    refine ⟨adr fb, rfl, A, L, C, (hcells w31 n31).1, adr ab, rfl, _, d31.st.wk.nd hMa hBa (j := 0) rfl rfl, ?_⟩
    refine (c_ast_ArgumentDefinitionList_ForName d31.st.wk hads).mono ?_
    rintro _ _ ⟨q45, rfl, rfl, hq45⟩
    exact ⟨q45, rfl, trivial, trivial, trivial, key26 q45 _ n31 (argdef_of hokads hq45)⟩
   ·refine ⟨adr b, rfl, A2, L2, C2, d23.st.wk.nd hM hB (j := 3) rfl rfl, ?_⟩
    refine (c_walkDirectives g d23.st ez.e5 ez.e6 ez.e7 hdirs).mono ?_
    rintro _ w42 ⟨rfl, n42⟩
    have m42 := m14.trans (n23.trans n42)
    have d42 := hw.nst g m42
    refine ⟨rfl, trivial, adr b, rfl, A3, L3, C3, d42.st.wk.nd hM hB (j := 4) rfl rfl, ?_⟩
    refine (IH A3 L3 C3 qn w42 o vs l d42 ez gqn hm hkids (by simpa [spS] using hall)).mono ?_
    rintro _ w46 ⟨rfl, h46⟩
    have h46' := h46
    obtain ⟨s46, vs', evs', d46, -⟩ := h46'
    refine ⟨rfl, trivial, adr c.wb, rfl, _, (d46.st.walker.at (j := 0) rfl).cell, adr c.eb, rfl, none, 0, 0, (d46.st.events.at (j := 1) ez.e1).cell, ?_⟩
    refine ⟨fun n w => n = 0 /\ w = w46, fun _ _ => 0, ⟨rfl, rfl⟩, ?_⟩
    rintro _ _ ⟨rfl, rfl⟩
    exact ⟨fun h => absurd (of_decide_eq_true h) (by omega), fun _ => ⟨rfl, by simpa [spS] using h46.after m42.stp⟩⟩
  refine ⟨fun hs => ?_, fun _ => key15 none w14 (Nst.refl c w14) (.inl rfl)⟩
  have g14' := g14
  rcases g14' with rfl | ⟨fb, A, L, C, xs, qt, rfl, hads, hokads, hcells⟩
  ·cases hs
  intro w62 e62
  have n62 := (Nst.refl c w14).drew e62
  have d62 := d14.nst g n62
  obtain ⟨z1, z2, z3, z4⟩ := d62.st.sch g
  obtain ⟨-, k4, s, kcall⟩ := hcells w62 n62
  refine ⟨adr c.wb, rfl, _, z1, adr c.sb, rfl, _, z2, adr fb, rfl, _, k4, ?_⟩
  refine kcall.mono ?_
  rintro _ _ ⟨rfl, rfl⟩
  obtain ⟨q72, r72, g72⟩ := z4 s
  exact ⟨s, rfl, trivial, by simp, q72, r72, trivial, key15 q72 _ n62 g72⟩
 refine ⟨adr b, rfl, n, hw.st.wk.nd hM hB (j := 1) rfl rfl, fun _ => ?_, fun _ => ⟨fun hs => ?_, fun _ => key8 none w (Nst.refl c w) (.inl rfl)⟩⟩
 ·refine q_ast_NamedType _ none w _ ⟨trivial, trivial, _, rfl, trivial, trivial, trivial, ?_⟩
  have x1 : Ext (fun _ => False) w _ := (Ext.refl w).alloc (.cells #[.string ⟨#[83,116,114,105,110,103]⟩, .pointer none, .bool false, .pointer none] 297)
  have x2 := x1.alloc (.cells #[.string ⟨#[]⟩, .string ⟨#[95,95,116,121,112,101,110,97,109,101]⟩, .slice none 0 0, .pointer none, .pointer (some (adr w.heap.size)), .slice none 0 0, .pointer none, .pointer none, .pointer none] 289)
  have hsz : ∀ b, w.heap.size <= b -> ¬ c.M b := fun b hb hMb => by
   have := g.lt b hMb
   have := hw.st.sz
   omega
  refine key8 _ _ (Nst.of0 x2) (GFld.fresh g (s := ⟨#[83,116,114,105,110,103]⟩) (by decide) (Blk.made _ _ _) ((Blk.made w _ _).ext (X := fun _ => False) ((Ext.refl _).alloc _) id) rfl rfl (hsz _ x1.size) (hsz _ (Nat.le_refl _)))
 ·rcases gp with rfl | ⟨db, d, rfl, hpd, hokd⟩
  ·cases hs
  intro w79 e79
  have n79 := (Nst.refl c w).drew e79
  have d79 := hw.nst g n79
  have hpd' := hpd
  obtain ⟨_, _, _, _, _, _, Af, Lf, Cf, _, _, _, _, _, _, posd, hMd, hBd, -, -, hflds, -⟩ := hpd'
  refine ⟨adr db, rfl, Af, Lf, Cf, d79.st.wk.nd hMd hBd (j := 5) rfl rfl, adr b, rfl, n, d79.st.wk.nd hM hB (j := 1) rfl rfl, ?_⟩
  refine (c_ast_FieldList_ForName d79.st.wk hflds).mono ?_
  rintro _ _ ⟨q86, rfl, rfl, hq86⟩
  refine ⟨q86, rfl, trivial, trivial, trivial, key8 q86 _ n79 ?_⟩
  cases hf : firstN Fld.name d.fields n with
  | none => rw [hf] at hq86; exact .inl hq86
  | some f =>
   rw [hf] at hq86
   obtain ⟨fb, rfl, hpf⟩ := hq86
   exact GFld.real d79.st.wk hpf (hokd.2.2.1 f (firstN_mem hf).1)
end Go.VC
namespace Go.VC
open Go Go.Proofs
variable [DB]
theorem c_walkInline {c : WCtx} (g : Good c) {m : Nat} (al n on : BA) (args : List Argm) (dirs : List Dir) (kids : List Sel) (IH : WSels c m kids) : WSel c m (.mk 2 al n on args dirs kids) := by
 intro v pq w o vs l hw ez gp hm hp hall
 simp only [PSel] at hp
 rcases hp with ⟨h, -⟩ | ⟨h, -⟩ | ⟨-, b, A2, L2, C2, A3, L3, C3, pos, rfl, hM, hB, hdirs, hL3, hC3, hs3, hkids⟩
 ·simp at h
 ·simp at h
 have hkids := PSels'_iff.1 ⟨hL3, hC3, hs3, hkids⟩
 refine q_core_Walker_walkSelection (some (adr c.wb)) pq (some (271, .pointer (some (adr b)))) w _ fun K4 hK4 => ?_
 refine ⟨fun u hu => absurd hu (by simp), fun _ => hK4 false none w ⟨nofun, fun _ => ?_⟩⟩
 intro K87 hK87
 refine ⟨fun u hu => ⟨some (adr b), by cases hu; rfl, hK87 true _ w ⟨fun _ => ?_, nofun⟩⟩, fun hn => absurd rfl (hn _)⟩
 have n92 := Nst.set (v := .pointer pq) hw.st.wk hM hB (note_plain (T := 273) (j := 3) rfl (by decide) (by decide) (by decide))
 have d92 := hw.nst g n92
 refine ⟨adr b, rfl, hw.st.wk.off hM hB (j := 3) (n := 1) (by simp), trivial, fun K93 hK93 => ?_⟩
 have key93 : ∀ qn w95, Nst c w w95 -> GDef c qn -> K93 qn w95 := by
  intro qn w95 n95 gqn
  have d95 := hw.nst g n95
  refine hK93 qn w95 ⟨adr b, rfl, A2, L2, C2, d95.st.wk.nd hM hB (j := 1) rfl rfl, ?_⟩
  refine (c_walkDirectives g d95.st ez.e5 ez.e6 ez.e7 hdirs).mono ?_
  rintro _ w99 ⟨rfl, n99⟩
  have m99 := n95.trans n99
  have d99 := hw.nst g m99
  refine ⟨rfl, trivial, adr b, rfl, A3, L3, C3, d99.st.wk.nd hM hB (j := 2) rfl rfl, ?_⟩
  refine (IH A3 L3 C3 qn w99 o vs l d99 ez gqn hm hkids (by simpa [spS] using hall)).mono ?_
  rintro _ w103 ⟨rfl, h103⟩
  have h103' := h103
  obtain ⟨s103, vs', evs', d103, -⟩ := h103'
  refine ⟨rfl, trivial, adr c.wb, rfl, _, (d103.st.walker.at (j := 0) rfl).cell, adr c.eb, rfl, none, 0, 0, (d103.st.events.at (j := 3) ez.e3).cell, ?_⟩
  refine ⟨fun n w => n = 0 /\ w = w103, fun _ _ => 0, ⟨rfl, rfl⟩, ?_⟩
  rintro _ _ ⟨rfl, rfl⟩
  exact ⟨fun h => absurd (of_decide_eq_true h) (by omega), fun _ => ⟨rfl, by simpa [spS] using h103.after m99.stp⟩⟩
 refine ⟨adr b, rfl, on, d92.st.wk.nd hM hB (j := 0) rfl rfl, fun _ => ?_, fun _ => key93 pq _ n92 gp⟩
 intro w121 e121
 have n121 := n92.drew e121
 have d121 := hw.nst g n121
 obtain ⟨z1, z2, z3, z4⟩ := d121.st.sch g
 obtain ⟨q128, r128, g128⟩ := z4 on
 exact ⟨adr c.wb, rfl, _, z1, adr c.sb, rfl, _, z2, adr b, rfl, _, d121.st.wk.nd hM hB (j := 0) rfl rfl, q128, r128, trivial, key93 q128 _ n121 g128⟩
theorem c_walkSpread {c : WCtx} (g : Good c) {m : Nat} (al n on : BA) (args : List Argm) (dirs : List Dir) (kids : List Sel) (IHm : ∀ m', m = m' + 1 -> ∀ f ∈ c.frags, WSels c m' f.kids) : WSel c m (.mk 1 al n on args dirs kids) := by
 intro v pq w o vs l hw ez gp hm hp hall
 simp only [PSel] at hp
 rcases hp with ⟨h, -⟩ | ⟨-, b, A2, L2, C2, pos, rfl, hM, hB, hdirs⟩ | ⟨h, -⟩
 ·simp at h
 rotate_left
 ·simp at h
 have halln : AllSp c n := hall n (by simp [spS])
 refine q_core_Walker_walkSelection (some (adr c.wb)) pq (some (125, .pointer (some (adr b)))) w _ fun K4 hK4 => ?_
 refine ⟨fun u hu => absurd hu (by simp), fun _ => hK4 false none w ⟨nofun, fun _ => ?_⟩⟩
 intro K87 hK87
 refine ⟨fun u hu => absurd hu (by simp), fun _ => hK87 false none w ⟨nofun, fun _ => ?_⟩⟩
 intro K129 hK129
 refine ⟨fun u hu => ⟨some (adr b), by cases hu; rfl, hK129 true _ w ⟨fun _ => ?_, nofun⟩⟩, fun hn => absurd rfl (hn _)⟩
 intro w133 e133
 have n133 := (Nst.refl c w).drew e133
 have d133 := hw.nst g n133
 obtain ⟨q138, r138, o138⟩ := d133.st.flook n
 have n140 := Nst.set (v := .pointer q138) d133.st.wk hM hB (note_s3 hB o138)
 have a140 := d133.st.wk.setat hM hB (j := 3) (v := .pointer q138) (by simp)
 have d140 := d133.nst g n140
 have n142 := Nst.set (v := .pointer pq) d140.st.wk hM hB (note_plain (T := 133) (j := 2) rfl (by decide) (by decide) (by decide))
 have d142 := d140.nst g n142
 have m142 := n133.trans (n140.trans n142)
 refine ⟨adr c.wb, rfl, _, (d133.st.walker.at (j := 5) rfl).cell, adr b, rfl, n, d133.st.wk.nd hM hB (j := 0) rfl rfl, q138, r138, trivial, adr b, rfl, d133.st.wk.off hM hB (j := 3) (n := 1) (by simp), trivial, adr b, rfl, d140.st.wk.off hM hB (j := 2) (n := 1) (by simp), trivial, fun K143 hK143 => ?_⟩
 have key143 : ∀ qn w145, Nst c (w133.setCell ⟨b, 3, none⟩ (.pointer q138)) w145 -> GDef c qn -> K143 qn w145 := by
  intro qn w145 n145 gqn
  have d145 := d140.nst g n145
  refine hK143 qn w145 ⟨adr b, rfl, A2, L2, C2, d145.st.wk.nd hM hB (j := 1) rfl rfl, ?_⟩
  refine (c_walkDirectives g d145.st ez.e5 ez.e6 ez.e7 hdirs).mono ?_
  rintro _ w149 ⟨rfl, n149⟩
  refine ⟨rfl, trivial, fun K150 hK150 K167 hK167 => ?_⟩
  have m149 := n145.trans n149
  have key150 : ∀ w151, Wr c o vs l (w133.setCell ⟨b, 3, none⟩ (.pointer q138)) [] w151 -> K150 w151 := by
   rintro w151 ⟨s151, vs', evs', d151, hlen, hev, -, hnil, hcap⟩
   refine hK150 w151 ⟨adr c.wb, rfl, _, (d151.st.walker.at (j := 0) rfl).cell, adr c.eb, rfl, o.A4, o.L4, o.C4, (d151.st.events.at (j := 4) ez.e4).cell, ?_⟩
   have hnode : evNode c w151 (.pointer (some (adr b))) (spEv c n) := by
    obtain ⟨v', hv', hcase⟩ := s151.wk.note (a := ⟨b, 3, none⟩) hM a140
    have hq : ∃ q, v' = .pointer q /\ OptQ (PFrag c.M c.w0) (firstN Frag.name c.frags n) q := by
     rcases hcase with rfl | hok
     ·exact ⟨q138, rfl, o138⟩
     ·exact hok.spread hB
    obtain ⟨q, rfl, hq⟩ := hq
    exact ⟨b, q, _, _, _, _, rfl, hM, hB, hv'.cell, hq.isSome, rfl⟩
   refine vis_loop g d151.vis d151.ev d151.st (ev := spEv c n) (kind := isSpread) rfl hnode (Q := fun w' => (.returned (.tuple #[]) : Ending) = .returned (.tuple #[]) /\ Wr c o vs l w (spS (.mk 1 al n on args dirs kids)) w') fun w' hx hs => ⟨rfl, ?_⟩
   refine ⟨(n133.trans n140).stp.trans (s151.trans (Stp.ofV g hx)), vs', evs' ++ em o.obs (spEv c n), d151.v g hx (by rwa [<- List.append_assoc]), hlen, fun e he => ?_, fun ho n' hn' => ?_, fun ho => by rw [hnil ho, ho]; rfl, ?_⟩
   ·rcases List.mem_append.1 he with he | he
    ·exact hev e he
    ·refine ⟨n, halln, ?_⟩
     cases hob : o.obs with
     | false => rw [hob] at he; simp [em] at he
     | true => rw [hob] at he; simpa [em] using he
   ·obtain rfl : n' = n := by simpa [spS] using hn'
    rw [ho]
    simp [em]
   ·have : (em o.obs (spEv c n)).length <= 1 := by cases o.obs <;> simp [em]
    simp only [List.length_append, spS, if_true, List.length_cons, List.length_nil] at hcap ⊢
    omega
  intro w184 e184
  have n184 := m149.drew e184
  have d184 := d140.nst g n184
  have k0 : ∀ w', Nst c (w133.setCell ⟨b, 3, none⟩ (.pointer q138)) w' -> K150 w' := fun w' n' => key150 w' ((Wr.refl d140).nst g n')
  cases hfn : firstN Frag.name c.frags n with
  | none =>
   rw [hfn] at o138
   obtain rfl : q138 = none := o138
   exact ⟨nofun, fun _ => hK167 false w184 ⟨nofun, fun _ => k0 w184 n184⟩⟩
  | some f =>
   have o138' := o138
   rw [hfn] at o138'
   obtain ⟨fb, hqf, Af2, Lf2, Cf2, Af3, Lf3, Cf3, posf, hMf, hBf, hfd, hfk⟩ := o138'
   obtain ⟨hfm, hfname⟩ := firstN_mem hfn
   obtain ⟨z, r189, hz⟩ := d184.vm.look f.name
   refine ⟨fun _ => ⟨adr c.wb, rfl, _, (d184.st.walker.at (j := 3) rfl).cell, adr fb, hqf, f.name, d184.st.wk.nd hMf hBf (j := 1) rfl rfl, z, r189, ?_⟩, fun h => by rw [hqf] at h; cases h⟩
   refine hK167 (!z) w184 ⟨fun hb => ?_, fun _ => k0 w184 n184⟩
   have hnew : f.name ∉ vs := fun hm => by
    rw [hz.2 hm] at hb
    cases hb
   intro w170 e170
   have n170 := n184.drew e170
   have d170 := d140.nst g n170
   have hfmem : f.name ∈ c.frags.map Frag.name := List.mem_map.2 ⟨f, hfm, rfl⟩
   obtain ⟨w175, r175, d175, s175⟩ := d170.put g hnew hfmem
   refine ⟨adr c.wb, rfl, _, (d170.st.walker.at (j := 3) rfl).cell, adr fb, hqf, f.name, d170.st.wk.nd hMf hBf (j := 1) rfl rfl, w175, r175, trivial, trivial, adr fb, hqf, Af2, Lf2, Cf2, d175.st.wk.nd hMf hBf (j := 4) rfl rfl, ?_⟩
   refine (c_walkDirectives g d175.st ez.e5 ez.e6 ez.e7 hfd).mono ?_
   rintro _ w179 ⟨rfl, n179⟩
   have d179 := d175.nst g n179
   refine ⟨rfl, trivial, adr fb, hqf, Af3, Lf3, Cf3, d179.st.wk.nd hMf hBf (j := 5) rfl rfl, ?_⟩
   have hlen : (f.name :: vs).length <= c.frags.length := by
    have := nodup_len d175.nd d175.sub
    simpa using this
   cases m with
   | zero =>
    simp only [List.length_cons] at hlen
    omega
   | succ m' =>
    refine (IHm m' rfl f hfm Af3 Lf3 Cf3 qn w179 o (f.name :: vs) l d179 ez gqn (by simp only [List.length_cons]; omega) hfk fun n hn => .inr ⟨f, hfm, hn⟩).mono ?_
    rintro _ w183 ⟨rfl, s183, vs', evs', d183, hlen', hev, -, hnil, hcap⟩
    refine ⟨rfl, trivial, key150 w183 ⟨n170.stp.trans (s175.trans (n179.stp.trans s183)), vs', evs', d183, ?_, hev, by simp, hnil, by have := pot_put hfm hnew; simp only [List.length_nil]; omega⟩⟩
    simp only [List.length_cons] at hlen'
    omega
 refine ⟨fun hs => ?_, fun _ => key143 none _ n142 (.inl rfl)⟩
 cases hfn : firstN Frag.name c.frags n with
 | none =>
  rw [hfn] at o138
  rw [show q138 = none from o138] at hs
  cases hs
 | some f =>
  have o138' := o138
  rw [hfn] at o138'
  obtain ⟨fb, hqf, Af2, Lf2, Cf2, Af3, Lf3, Cf3, posf, hMf, hBf, hfd, hfk⟩ := o138'
  intro w190 e190
  have n190 := n142.drew e190
  have d190 := d140.nst g n190
  obtain ⟨z1, z2, z3, z4⟩ := d190.st.sch g
  obtain ⟨q197, r197, g197⟩ := z4 f.on
  exact ⟨adr c.wb, rfl, _, z1, adr c.sb, rfl, _, z2, adr fb, hqf, f.on, d190.st.wk.nd hMf hBf (j := 3) rfl rfl, q197, r197, trivial, key143 q197 _ n190 g197⟩
theorem c_walkSelOf {c : WCtx} (g : Good c) {m : Nat} (IHm : ∀ m', m = m' + 1 -> ∀ f ∈ c.frags, WSels c m' f.kids) : ∀ s, WSel c m s
 | .mk k al n on args dirs kids => by
  have IH : WSels c m kids := c_walkSelectionSet g fun s hs => c_walkSelOf g IHm s
  intro v pq w o vs l hw ez gp hm hp hall
  have hk : k = 0 ∨ k = 1 ∨ k = 2 := by
   have hp' := hp
   simp only [PSel] at hp'
   rcases hp' with ⟨h, -⟩ | ⟨h, -⟩ | ⟨h, -⟩ <;> simp [h]
  rcases hk with rfl | rfl | rfl
  ·exact c_walkField g al n on args dirs kids IH v pq w o vs l hw ez gp hm hp hall
  ·exact c_walkSpread g al n on args dirs kids IHm v pq w o vs l hw ez gp hm hp hall
  ·exact c_walkInline g al n on args dirs kids IH v pq w o vs l hw ez gp hm hp hall
 termination_by s => SizeOf.sizeOf s
 decreasing_by
 have := List.sizeOf_lt_of_mem hs
 simp
 omega
theorem c_walkSels {c : WCtx} (g : Good c) : ∀ (m : Nat) (ks : List Sel), WSels c m ks
 | 0, ks => c_walkSelectionSet g fun s _ => c_walkSelOf g (fun m' h => by omega) s
 | m + 1, ks => c_walkSelectionSet g fun s _ => c_walkSelOf g (fun m' h f hf => by
   obtain rfl : m = m' := by omega
   exact c_walkSels g m f.kids) s
end Go.VC
