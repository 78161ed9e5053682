/- Part of the proof of a law of a rule over documents (UnB), where what the arguments hold is of bulk at most 1048576. -/
import Derived.Test.YtimdonbcgiakgaaGreatReadA
import Derived.Test.YtimdonbcgiakgaaGreatHeld
import Derived.Test.YtimdonbcgiakgaaGreatRows
import Derived.ProofKit
set_option linter.unusedVariables false
namespace Go.Proofs.YtimdonbcgiakgaaGreat.fnRuleFragUsed
open Go Go.VC
theorem j0:(Rows.fnRuleFragUsedUptoRow.wf (OpenSpec.ofChange (Rows.OpenSpec.upto Rows.fnRuleFragUsedSpec).bare))=true:=by kernel_rfl
theorem j1:(laidOutB Tryz.pinned.checked.prog)=true:=g1
theorem j2:(mapsRowed Tryz.pinned.checked.prog)=true:=g2
theorem j3:(Tryz.f3.params.all (Tryz.pinned.checked.prog.readableRec ·))=true:=by kernel_rfl
theorem j4:(namedTie Tryz.pinned.checked.prog Rows.fnRuleFragUsedUptoRow.named (Rows.OpenSpec.upto Rows.fnRuleFragUsedSpec).bare.vars)=true:=by kernel_rfl
theorem j5:(Rows.fnRuleFragUsedUptoRow.stops==[])=true:=by kernel_rfl
theorem j6:(Tryz.pinned.checked.prog.stops==[])=true:=g6
theorem j7:(Rows.fnRuleFragUsedUptoRow.knobs==[])=true:=by kernel_rfl
theorem j8:(Tryz.pinned.checked.prog.stopKnobs==[])=true:=g8
theorem j9:(Rows.fnRuleFragUsedUptoRow.inPlace==Tryz.pinned.checked.prog.inPlace 3)=true:=by kernel_rfl
theorem j10:(Rows.fnRuleFragUsedUptoRow.unfollowed==Tryz.pinned.checked.prog.unfollowed 3)=true:=by kernel_rfl
theorem j11:(Rows.fnRuleFragUsedUptoRow.recurses==Tryz.pinned.checked.prog.recurses 3)=true:=by kernel_rfl
theorem j12:(Rows.fnRuleFragUsedUptoRow.named==Tryz.pinned.checked.prog.varsNamed 3)=true:=by kernel_rfl
theorem j13:(Rows.fnRuleFragUsedUptoRow.maps==(Tryz.f3.params.toList++(Rows.OpenSpec.upto Rows.fnRuleFragUsedSpec).bare.plain.varTypes Tryz.pinned.checked.prog).any (Tryz.pinned.checked.prog.mapsRec ·))=true:=by kernel_rfl
theorem j14:(Rows.fnRuleFragUsedUptoRow.ifaces==(Tryz.f3.params.toList++(Rows.OpenSpec.upto Rows.fnRuleFragUsedSpec).bare.plain.varTypes Tryz.pinned.checked.prog).any (Tryz.pinned.checked.prog.ifacesRec ·))=true:=by kernel_rfl
theorem j15:(Rows.fnRuleFragUsedUptoRow.mapsOut==Tryz.pinned.checked.prog.mapsAmong Tryz.f3.resultTypes.toList)=true:=by kernel_rfl
theorem j16:(Rows.fnRuleFragUsedUptoRow.loops==(Tryz.f3.params.toList++(Rows.OpenSpec.upto Rows.fnRuleFragUsedSpec).bare.plain.varTypes Tryz.pinned.checked.prog).any (Tryz.pinned.checked.prog.loopsFrom ·))=true:=by kernel_rfl
theorem j17:(Rows.fnRuleFragUsedUptoRow.wideKeys==(Tryz.f3.params.toList++(Rows.OpenSpec.upto Rows.fnRuleFragUsedSpec).bare.plain.varTypes Tryz.pinned.checked.prog++Tryz.f3.resultTypes.toList).any (Tryz.pinned.checked.prog.wideKeysFrom ·))=true:=by kernel_rfl
theorem j18:((Rows.OpenSpec.upto Rows.fnRuleFragUsedSpec).bare.vars.all (Tryz.pinned.checked.prog.varReadable ·))=true:=by kernel_rfl
theorem j19:(Tryz.f3.resultTypes.all (fun t=>Tryz.pinned.checked.prog.readableRec t&&decide (t<Tryz.pinned.checked.prog.types.size)))=true:=by kernel_rfl
theorem j20:(Rows.fnRuleFragUsedUptoRow.ifacesOut==Tryz.f3.resultTypes.toList.any (Tryz.pinned.checked.prog.ifacesRec ·))=true:=by kernel_rfl
theorem j21:(Rows.fnRuleFragUsedUptoRow.loopsOut==Tryz.f3.resultTypes.toList.any (Tryz.pinned.checked.prog.loopsFrom ·))=true:=by kernel_rfl
theorem j22:(Rows.fnRuleFragUsedUptoRow.plainKeys==Tryz.pinned.checked.prog.plainKeys)=true:=by kernel_rfl
theorem j23:(Rows.fnRuleFragUsedUptoRow.shortTexts.isNone)=true:=by kernel_rfl
theorem j24:(Tryz.pinned.checked.prog.stopsHeard)=true:=g24
theorem j25:(Tryz.pinned.checked.prog.mayEnter)=true:=g25
theorem j26:(Rows.fnRuleFragUsedUptoRow.lifted==Tryz.pinned.checked.prog.liftsFinal)=true:=by kernel_rfl
theorem j27:(Tryz.pinned.checked.prog.make==some Rows.fnRuleFragUsedUptoRow.make)=true:=by kernel_rfl
theorem j28:Rows.fnRuleFragUsedUptoRow.domain.isEmpty=true:=rfl
theorem k28:Rows.fnRuleFragUsedUptoRow.kinds=[]:=rfl
theorem j29:(Rows.fnRuleFragUsedUptoRow.pinned==Rows.fnRuleFragUsedUptoRow.pinnedBy)=true:=by kernel_rfl
theorem j30:(Rows.fnRuleFragUsedUptoRow.veiled==(Tryz.f3.params.toList++(Rows.OpenSpec.upto Rows.fnRuleFragUsedSpec).bare.plain.varTypes Tryz.pinned.checked.prog++Tryz.f3.resultTypes.toList).any (Tryz.pinned.checked.prog.veiledRec ·))=true:=by kernel_rfl
theorem j31:(Rows.fnRuleFragUsedUptoRow.veiledFits Tryz.pinned.checked.prog Tryz.f3.params.toList (Tryz.f3.params.toList++(Rows.OpenSpec.upto Rows.fnRuleFragUsedSpec).bare.plain.varTypes Tryz.pinned.checked.prog++Tryz.f3.resultTypes.toList))=true:=by kernel_rfl
theorem closed_f:joinedFacts Tryz.pinned.checked.prog 3 Tryz.f3 (Rows.OpenSpec.upto Rows.fnRuleFragUsedSpec).bare Rows.fnRuleFragUsedUptoRow=true:=
 joined_of j0 j1 j2 j3 j4 j5 j6 j7 j8 j9 j10 j11 j12 j13 j14 j15 j16 j17 j18 j19 j20 j21 j22 j23 j24 j25 j26 j27 j28 k28 j29 j30 j31
theorem named_f:Tryz.pinned.checked.prog.funcNamed Rows.fnRuleFragUsedUptoRow.func=some 3:=by kernel_rfl
theorem inst_f:Tryz.f3.isInstance Tryz.pinned.checked.prog Rows.fnRuleFragUsedUptoRow.origin Rows.fnRuleFragUsedUptoRow.targs:=odt (by kernel_rfl)
theorem wrap_f:Tryz.f3.isWrapper Tryz.pinned.checked.prog Rows.fnRuleFragUsedUptoRow.wrapper Rows.fnRuleFragUsedUptoRow.mainSum:=by unfold Func.isWrapper;first|(rw [if_pos (by decide +kernel)];kernel_rfl)|(rw [if_neg (by decide +kernel)];exact ⟨rfl,rfl⟩)
end Go.Proofs.YtimdonbcgiakgaaGreat.fnRuleFragUsed
