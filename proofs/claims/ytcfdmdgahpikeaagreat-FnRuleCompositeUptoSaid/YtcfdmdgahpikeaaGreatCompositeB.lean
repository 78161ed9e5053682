/- Part of the proof of a law of a rule over documents (CompositeB), where what the arguments hold is of bulk at most 1048576. -/
import Derived.Test.YtcfdmdgahpikeaaGreatReadA
import Derived.Test.YtcfdmdgahpikeaaGreatHeld
import Derived.Test.YtcfdmdgahpikeaaGreatRows
import Derived.ProofKit
set_option linter.unusedVariables false
set_option linter.unusedSimpArgs false
set_option linter.unusedSectionVars false
set_option linter.deprecated false
namespace Go.Proofs.YtcfdmdgahpikeaaGreat.fnRuleComposite
open Go Go.VC
theorem j0 : (Rows.fnRuleCompositeUptoRow.wf (OpenSpec.ofChange (Rows.OpenSpec.upto Rows.fnRuleCompositeSpec).bare)) = true := by kernel_rfl
theorem j1 : (laidOutB Tryz.pinned.checked.prog) = true := g1
theorem j2 : (mapsRowed Tryz.pinned.checked.prog) = true := g2
theorem j3 : (Tryz.f5.params.all (Tryz.pinned.checked.prog.readableRec ·)) = true := by kernel_rfl
theorem j4 : (namedTie Tryz.pinned.checked.prog Rows.fnRuleCompositeUptoRow.named (Rows.OpenSpec.upto Rows.fnRuleCompositeSpec).bare.vars) = true := by kernel_rfl
theorem j5 : (Rows.fnRuleCompositeUptoRow.stops == []) = true := by kernel_rfl
theorem j6 : (Tryz.pinned.checked.prog.stops == []) = true := g6
theorem j7 : (Rows.fnRuleCompositeUptoRow.knobs == []) = true := by kernel_rfl
theorem j8 : (Tryz.pinned.checked.prog.stopKnobs == []) = true := g8
theorem j9 : (Rows.fnRuleCompositeUptoRow.inPlace == Tryz.pinned.checked.prog.inPlace 5) = true := by kernel_rfl
theorem j10 : (Rows.fnRuleCompositeUptoRow.unfollowed == Tryz.pinned.checked.prog.unfollowed 5) = true := by kernel_rfl
theorem j11 : (Rows.fnRuleCompositeUptoRow.recurses == Tryz.pinned.checked.prog.recurses 5) = true := by kernel_rfl
theorem j12 : (Rows.fnRuleCompositeUptoRow.named == Tryz.pinned.checked.prog.varsNamed 5) = true := by kernel_rfl
theorem j13 : (Rows.fnRuleCompositeUptoRow.maps == (Tryz.f5.params.toList ++ (Rows.OpenSpec.upto Rows.fnRuleCompositeSpec).bare.plain.varTypes Tryz.pinned.checked.prog).any (Tryz.pinned.checked.prog.mapsRec ·)) = true := by kernel_rfl
theorem j14 : (Rows.fnRuleCompositeUptoRow.ifaces == (Tryz.f5.params.toList ++ (Rows.OpenSpec.upto Rows.fnRuleCompositeSpec).bare.plain.varTypes Tryz.pinned.checked.prog).any (Tryz.pinned.checked.prog.ifacesRec ·)) = true := by kernel_rfl
theorem j15 : (Rows.fnRuleCompositeUptoRow.mapsOut == Tryz.pinned.checked.prog.mapsAmong Tryz.f5.resultTypes.toList) = true := by kernel_rfl
theorem j16 : (Rows.fnRuleCompositeUptoRow.loops == (Tryz.f5.params.toList ++ (Rows.OpenSpec.upto Rows.fnRuleCompositeSpec).bare.plain.varTypes Tryz.pinned.checked.prog).any (Tryz.pinned.checked.prog.loopsFrom ·)) = true := by kernel_rfl
theorem j17 : (Rows.fnRuleCompositeUptoRow.wideKeys == (Tryz.f5.params.toList ++ (Rows.OpenSpec.upto Rows.fnRuleCompositeSpec).bare.plain.varTypes Tryz.pinned.checked.prog ++ Tryz.f5.resultTypes.toList).any (Tryz.pinned.checked.prog.wideKeysFrom ·)) = true := by kernel_rfl
theorem j18 : ((Rows.OpenSpec.upto Rows.fnRuleCompositeSpec).bare.vars.all (Tryz.pinned.checked.prog.varReadable ·)) = true := by kernel_rfl
theorem j19 : (Tryz.f5.resultTypes.all (fun t => Tryz.pinned.checked.prog.readableRec t && decide (t < Tryz.pinned.checked.prog.types.size))) = true := by kernel_rfl
theorem j20 : (Rows.fnRuleCompositeUptoRow.ifacesOut == Tryz.f5.resultTypes.toList.any (Tryz.pinned.checked.prog.ifacesRec ·)) = true := by kernel_rfl
theorem j21 : (Rows.fnRuleCompositeUptoRow.loopsOut == Tryz.f5.resultTypes.toList.any (Tryz.pinned.checked.prog.loopsFrom ·)) = true := by kernel_rfl
theorem j22 : (Rows.fnRuleCompositeUptoRow.plainKeys == Tryz.pinned.checked.prog.plainKeys) = true := by kernel_rfl
theorem j23 : (Rows.fnRuleCompositeUptoRow.shortTexts.isNone) = true := by kernel_rfl
theorem j24 : (Tryz.pinned.checked.prog.stopsHeard) = true := g24
theorem j25 : (Tryz.pinned.checked.prog.mayEnter) = true := g25
theorem j26 : (Rows.fnRuleCompositeUptoRow.lifted == Tryz.pinned.checked.prog.liftsFinal) = true := by kernel_rfl
theorem j27 : (Tryz.pinned.checked.prog.make == some Rows.fnRuleCompositeUptoRow.make) = true := by kernel_rfl
theorem j28 : Rows.fnRuleCompositeUptoRow.domain.isEmpty = true := rfl
theorem k28 : Rows.fnRuleCompositeUptoRow.kinds = [] := rfl
theorem j29 : (Rows.fnRuleCompositeUptoRow.pinned == Rows.fnRuleCompositeUptoRow.pinnedBy) = true := by kernel_rfl
theorem j30 : (Rows.fnRuleCompositeUptoRow.veiled == (Tryz.f5.params.toList ++ (Rows.OpenSpec.upto Rows.fnRuleCompositeSpec).bare.plain.varTypes Tryz.pinned.checked.prog ++ Tryz.f5.resultTypes.toList).any (Tryz.pinned.checked.prog.veiledRec ·)) = true := by kernel_rfl
theorem j31 : (Rows.fnRuleCompositeUptoRow.veiledFits Tryz.pinned.checked.prog Tryz.f5.params.toList (Tryz.f5.params.toList ++ (Rows.OpenSpec.upto Rows.fnRuleCompositeSpec).bare.plain.varTypes Tryz.pinned.checked.prog ++ Tryz.f5.resultTypes.toList)) = true := by kernel_rfl
theorem closed_f : joinedFacts Tryz.pinned.checked.prog 5 Tryz.f5 (Rows.OpenSpec.upto Rows.fnRuleCompositeSpec).bare Rows.fnRuleCompositeUptoRow = true :=
 joined_of j0 j1 j2 j3 j4 j5 j6 j7 j8 j9 j10 j11 j12 j13 j14 j15 j16 j17 j18 j19 j20 j21 j22 j23 j24 j25 j26 j27 j28 k28 j29 j30 j31
theorem named_f : Tryz.pinned.checked.prog.funcNamed Rows.fnRuleCompositeUptoRow.func = some 5 := by kernel_rfl
theorem inst_f : Tryz.f5.isInstance Tryz.pinned.checked.prog Rows.fnRuleCompositeUptoRow.origin Rows.fnRuleCompositeUptoRow.targs := of_decide_eq_true (by kernel_rfl)
theorem wrap_f : Tryz.f5.isWrapper Tryz.pinned.checked.prog Rows.fnRuleCompositeUptoRow.wrapper Rows.fnRuleCompositeUptoRow.mainSum := by unfold Func.isWrapper; first | (rw [if_pos (by decide +kernel)]; kernel_rfl) | (rw [if_neg (by decide +kernel)]; exact ⟨rfl, rfl⟩)
end Go.Proofs.YtcfdmdgahpikeaaGreat.fnRuleComposite
