/- Part of the proof of a law of a rule over documents (KeysB), where what the arguments hold is of bulk at most 1048576. -/
import Derived.Test.YtcfdmdgahpikeaaGreatReadA
import Derived.Test.YtcfdmdgahpikeaaGreatHeld
import Derived.Test.YtcfdmdgahpikeaaGreatRows
import Derived.ProofKit
set_option linter.unusedVariables false
set_option linter.unusedSimpArgs false
set_option linter.unusedSectionVars false
set_option linter.deprecated false
namespace Go.Proofs.YtcfdmdgahpikeaaGreat.fnRuleKeys
open Go Go.VC
theorem j0:(Rows.fnRuleKeysUptoRow.wf (OpenSpec.ofChange (Rows.OpenSpec.upto Rows.fnRuleKeysSpec).bare))=true:=by kernel_rfl
theorem j1:(laidOutB Tryz.pinned.checked.prog)=true:=g1
theorem j2:(mapsRowed Tryz.pinned.checked.prog)=true:=g2
theorem j3:(Tryz.f8.params.all (Tryz.pinned.checked.prog.readableRec ·))=true:=by kernel_rfl
theorem j4:(namedTie Tryz.pinned.checked.prog Rows.fnRuleKeysUptoRow.named (Rows.OpenSpec.upto Rows.fnRuleKeysSpec).bare.vars)=true:=by kernel_rfl
theorem j5:(Rows.fnRuleKeysUptoRow.stops==[])=true:=by kernel_rfl
theorem j6:(Tryz.pinned.checked.prog.stops==[])=true:=g6
theorem j7:(Rows.fnRuleKeysUptoRow.knobs==[])=true:=by kernel_rfl
theorem j8:(Tryz.pinned.checked.prog.stopKnobs==[])=true:=g8
theorem j9:(Rows.fnRuleKeysUptoRow.inPlace==Tryz.pinned.checked.prog.inPlace 8)=true:=by kernel_rfl
theorem j10:(Rows.fnRuleKeysUptoRow.unfollowed==Tryz.pinned.checked.prog.unfollowed 8)=true:=by kernel_rfl
theorem j11:(Rows.fnRuleKeysUptoRow.recurses==Tryz.pinned.checked.prog.recurses 8)=true:=by kernel_rfl
theorem j12:(Rows.fnRuleKeysUptoRow.named==Tryz.pinned.checked.prog.varsNamed 8)=true:=by kernel_rfl
theorem j13:(Rows.fnRuleKeysUptoRow.maps==(Tryz.f8.params.toList++(Rows.OpenSpec.upto Rows.fnRuleKeysSpec).bare.plain.varTypes Tryz.pinned.checked.prog).any (Tryz.pinned.checked.prog.mapsRec ·))=true:=by kernel_rfl
theorem j14:(Rows.fnRuleKeysUptoRow.ifaces==(Tryz.f8.params.toList++(Rows.OpenSpec.upto Rows.fnRuleKeysSpec).bare.plain.varTypes Tryz.pinned.checked.prog).any (Tryz.pinned.checked.prog.ifacesRec ·))=true:=by kernel_rfl
theorem j15:(Rows.fnRuleKeysUptoRow.mapsOut==Tryz.pinned.checked.prog.mapsAmong Tryz.f8.resultTypes.toList)=true:=by kernel_rfl
theorem j16:(Rows.fnRuleKeysUptoRow.loops==(Tryz.f8.params.toList++(Rows.OpenSpec.upto Rows.fnRuleKeysSpec).bare.plain.varTypes Tryz.pinned.checked.prog).any (Tryz.pinned.checked.prog.loopsFrom ·))=true:=by kernel_rfl
theorem j17:(Rows.fnRuleKeysUptoRow.wideKeys==(Tryz.f8.params.toList++(Rows.OpenSpec.upto Rows.fnRuleKeysSpec).bare.plain.varTypes Tryz.pinned.checked.prog++Tryz.f8.resultTypes.toList).any (Tryz.pinned.checked.prog.wideKeysFrom ·))=true:=by kernel_rfl
theorem j18:((Rows.OpenSpec.upto Rows.fnRuleKeysSpec).bare.vars.all (Tryz.pinned.checked.prog.varReadable ·))=true:=by kernel_rfl
theorem j19:(Tryz.f8.resultTypes.all (fun t=>Tryz.pinned.checked.prog.readableRec t&&decide (t<Tryz.pinned.checked.prog.types.size)))=true:=by kernel_rfl
theorem j20:(Rows.fnRuleKeysUptoRow.ifacesOut==Tryz.f8.resultTypes.toList.any (Tryz.pinned.checked.prog.ifacesRec ·))=true:=by kernel_rfl
theorem j21:(Rows.fnRuleKeysUptoRow.loopsOut==Tryz.f8.resultTypes.toList.any (Tryz.pinned.checked.prog.loopsFrom ·))=true:=by kernel_rfl
theorem j22:(Rows.fnRuleKeysUptoRow.plainKeys==Tryz.pinned.checked.prog.plainKeys)=true:=by kernel_rfl
theorem j23:(Rows.fnRuleKeysUptoRow.shortTexts.isNone)=true:=by kernel_rfl
theorem j24:(Tryz.pinned.checked.prog.stopsHeard)=true:=g24
theorem j25:(Tryz.pinned.checked.prog.mayEnter)=true:=g25
theorem j26:(Rows.fnRuleKeysUptoRow.lifted==Tryz.pinned.checked.prog.liftsFinal)=true:=by kernel_rfl
theorem j27:(Tryz.pinned.checked.prog.make==some Rows.fnRuleKeysUptoRow.make)=true:=by kernel_rfl
theorem j28:Rows.fnRuleKeysUptoRow.domain.isEmpty=true:=rfl
theorem k28:Rows.fnRuleKeysUptoRow.kinds=[]:=rfl
theorem j29:(Rows.fnRuleKeysUptoRow.pinned==Rows.fnRuleKeysUptoRow.pinnedBy)=true:=by kernel_rfl
theorem j30:(Rows.fnRuleKeysUptoRow.veiled==(Tryz.f8.params.toList++(Rows.OpenSpec.upto Rows.fnRuleKeysSpec).bare.plain.varTypes Tryz.pinned.checked.prog++Tryz.f8.resultTypes.toList).any (Tryz.pinned.checked.prog.veiledRec ·))=true:=by kernel_rfl
theorem j31:(Rows.fnRuleKeysUptoRow.veiledFits Tryz.pinned.checked.prog Tryz.f8.params.toList (Tryz.f8.params.toList++(Rows.OpenSpec.upto Rows.fnRuleKeysSpec).bare.plain.varTypes Tryz.pinned.checked.prog++Tryz.f8.resultTypes.toList))=true:=by kernel_rfl
theorem closed_f:joinedFacts Tryz.pinned.checked.prog 8 Tryz.f8 (Rows.OpenSpec.upto Rows.fnRuleKeysSpec).bare Rows.fnRuleKeysUptoRow=true:=
 joined_of j0 j1 j2 j3 j4 j5 j6 j7 j8 j9 j10 j11 j12 j13 j14 j15 j16 j17 j18 j19 j20 j21 j22 j23 j24 j25 j26 j27 j28 k28 j29 j30 j31
theorem named_f:Tryz.pinned.checked.prog.funcNamed Rows.fnRuleKeysUptoRow.func=some 8:=by kernel_rfl
theorem inst_f:Tryz.f8.isInstance Tryz.pinned.checked.prog Rows.fnRuleKeysUptoRow.origin Rows.fnRuleKeysUptoRow.targs:=of_decide_eq_true (by kernel_rfl)
theorem wrap_f:Tryz.f8.isWrapper Tryz.pinned.checked.prog Rows.fnRuleKeysUptoRow.wrapper Rows.fnRuleKeysUptoRow.mainSum:=by unfold Func.isWrapper;first|(rw [if_pos (by decide +kernel)];kernel_rfl)|(rw [if_neg (by decide +kernel)];exact ⟨rfl,rfl⟩)
end Go.Proofs.YtcfdmdgahpikeaaGreat.fnRuleKeys
