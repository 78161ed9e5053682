/- Part of the proof of a law of a rule over documents (TypesB), where what the arguments hold is of bulk at most 1048576. -/
import Derived.Test.YtcfdmdgahpikeaaGreatReadA
import Derived.Test.YtcfdmdgahpikeaaGreatHeld
import Derived.Test.YtcfdmdgahpikeaaGreatRows
import Derived.ProofKit
set_option linter.unusedVariables false
set_option linter.unusedSimpArgs false
set_option linter.unusedSectionVars false
set_option linter.deprecated false
namespace Go.Proofs.YtcfdmdgahpikeaaGreat.fnRuleTypes
open Go Go.VC
theorem j0 : (Rows.fnRuleTypesUptoRow.wf (OpenSpec.ofChange (Rows.OpenSpec.upto Rows.fnRuleTypesSpec).bare)) = true := by kernel_rfl
theorem j1 : (laidOutB Tryz.pinned.checked.prog) = true := g1
theorem j2 : (mapsRowed Tryz.pinned.checked.prog) = true := g2
theorem j3 : (Tryz.f6.params.all (Tryz.pinned.checked.prog.readableRec ·)) = true := by kernel_rfl
theorem j4 : (namedTie Tryz.pinned.checked.prog Rows.fnRuleTypesUptoRow.named (Rows.OpenSpec.upto Rows.fnRuleTypesSpec).bare.vars) = true := by kernel_rfl
theorem j5 : (Rows.fnRuleTypesUptoRow.stops == []) = true := by kernel_rfl
theorem j6 : (Tryz.pinned.checked.prog.stops == []) = true := g6
theorem j7 : (Rows.fnRuleTypesUptoRow.knobs == []) = true := by kernel_rfl
theorem j8 : (Tryz.pinned.checked.prog.stopKnobs == []) = true := g8
theorem j9 : (Rows.fnRuleTypesUptoRow.inPlace == Tryz.pinned.checked.prog.inPlace 6) = true := by kernel_rfl
theorem j10 : (Rows.fnRuleTypesUptoRow.unfollowed == Tryz.pinned.checked.prog.unfollowed 6) = true := by kernel_rfl
theorem j11 : (Rows.fnRuleTypesUptoRow.recurses == Tryz.pinned.checked.prog.recurses 6) = true := by kernel_rfl
theorem j12 : (Rows.fnRuleTypesUptoRow.named == Tryz.pinned.checked.prog.varsNamed 6) = true := by kernel_rfl
theorem j13 : (Rows.fnRuleTypesUptoRow.maps == (Tryz.f6.params.toList ++ (Rows.OpenSpec.upto Rows.fnRuleTypesSpec).bare.plain.varTypes Tryz.pinned.checked.prog).any (Tryz.pinned.checked.prog.mapsRec ·)) = true := by kernel_rfl
theorem j14 : (Rows.fnRuleTypesUptoRow.ifaces == (Tryz.f6.params.toList ++ (Rows.OpenSpec.upto Rows.fnRuleTypesSpec).bare.plain.varTypes Tryz.pinned.checked.prog).any (Tryz.pinned.checked.prog.ifacesRec ·)) = true := by kernel_rfl
theorem j15 : (Rows.fnRuleTypesUptoRow.mapsOut == Tryz.pinned.checked.prog.mapsAmong Tryz.f6.resultTypes.toList) = true := by kernel_rfl
theorem j16 : (Rows.fnRuleTypesUptoRow.loops == (Tryz.f6.params.toList ++ (Rows.OpenSpec.upto Rows.fnRuleTypesSpec).bare.plain.varTypes Tryz.pinned.checked.prog).any (Tryz.pinned.checked.prog.loopsFrom ·)) = true := by kernel_rfl
theorem j17 : (Rows.fnRuleTypesUptoRow.wideKeys == (Tryz.f6.params.toList ++ (Rows.OpenSpec.upto Rows.fnRuleTypesSpec).bare.plain.varTypes Tryz.pinned.checked.prog ++ Tryz.f6.resultTypes.toList).any (Tryz.pinned.checked.prog.wideKeysFrom ·)) = true := by kernel_rfl
theorem j18 : ((Rows.OpenSpec.upto Rows.fnRuleTypesSpec).bare.vars.all (Tryz.pinned.checked.prog.varReadable ·)) = true := by kernel_rfl
theorem j19 : (Tryz.f6.resultTypes.all (fun t => Tryz.pinned.checked.prog.readableRec t && decide (t < Tryz.pinned.checked.prog.types.size))) = true := by kernel_rfl
theorem j20 : (Rows.fnRuleTypesUptoRow.ifacesOut == Tryz.f6.resultTypes.toList.any (Tryz.pinned.checked.prog.ifacesRec ·)) = true := by kernel_rfl
theorem j21 : (Rows.fnRuleTypesUptoRow.loopsOut == Tryz.f6.resultTypes.toList.any (Tryz.pinned.checked.prog.loopsFrom ·)) = true := by kernel_rfl
theorem j22 : (Rows.fnRuleTypesUptoRow.plainKeys == Tryz.pinned.checked.prog.plainKeys) = true := by kernel_rfl
theorem j23 : (Rows.fnRuleTypesUptoRow.shortTexts.isNone) = true := by kernel_rfl
theorem j24 : (Tryz.pinned.checked.prog.stopsHeard) = true := g24
theorem j25 : (Tryz.pinned.checked.prog.mayEnter) = true := g25
theorem j26 : (Rows.fnRuleTypesUptoRow.lifted == Tryz.pinned.checked.prog.liftsFinal) = true := by kernel_rfl
theorem j27 : (Tryz.pinned.checked.prog.make == some Rows.fnRuleTypesUptoRow.make) = true := by kernel_rfl
theorem j28 : Rows.fnRuleTypesUptoRow.domain.isEmpty = true := rfl
theorem k28 : Rows.fnRuleTypesUptoRow.kinds = [] := rfl
theorem j29 : (Rows.fnRuleTypesUptoRow.pinned == Rows.fnRuleTypesUptoRow.pinnedBy) = true := by kernel_rfl
theorem j30 : (Rows.fnRuleTypesUptoRow.veiled == (Tryz.f6.params.toList ++ (Rows.OpenSpec.upto Rows.fnRuleTypesSpec).bare.plain.varTypes Tryz.pinned.checked.prog ++ Tryz.f6.resultTypes.toList).any (Tryz.pinned.checked.prog.veiledRec ·)) = true := by kernel_rfl
theorem j31 : (Rows.fnRuleTypesUptoRow.veiledFits Tryz.pinned.checked.prog Tryz.f6.params.toList (Tryz.f6.params.toList ++ (Rows.OpenSpec.upto Rows.fnRuleTypesSpec).bare.plain.varTypes Tryz.pinned.checked.prog ++ Tryz.f6.resultTypes.toList)) = true := by kernel_rfl
theorem closed_f : joinedFacts Tryz.pinned.checked.prog 6 Tryz.f6 (Rows.OpenSpec.upto Rows.fnRuleTypesSpec).bare Rows.fnRuleTypesUptoRow = true :=
 joined_of j0 j1 j2 j3 j4 j5 j6 j7 j8 j9 j10 j11 j12 j13 j14 j15 j16 j17 j18 j19 j20 j21 j22 j23 j24 j25 j26 j27 j28 k28 j29 j30 j31
theorem named_f : Tryz.pinned.checked.prog.funcNamed Rows.fnRuleTypesUptoRow.func = some 6 := by kernel_rfl
theorem inst_f : Tryz.f6.isInstance Tryz.pinned.checked.prog Rows.fnRuleTypesUptoRow.origin Rows.fnRuleTypesUptoRow.targs := of_decide_eq_true (by kernel_rfl)
theorem wrap_f : Tryz.f6.isWrapper Tryz.pinned.checked.prog Rows.fnRuleTypesUptoRow.wrapper Rows.fnRuleTypesUptoRow.mainSum := by unfold Func.isWrapper; first | (rw [if_pos (by decide +kernel)]; kernel_rfl) | (rw [if_neg (by decide +kernel)]; exact ⟨rfl, rfl⟩)
end Go.Proofs.YtcfdmdgahpikeaaGreat.fnRuleTypes
