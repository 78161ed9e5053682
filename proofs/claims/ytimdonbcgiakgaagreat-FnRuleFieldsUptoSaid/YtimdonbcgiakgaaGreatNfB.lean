/- Part of the proof of a law of a rule over documents (NfB), where what the arguments hold is of bulk at most 1048576. -/
import Derived.Test.YtimdonbcgiakgaaGreatReadA
import Derived.Test.YtimdonbcgiakgaaGreatHeld
import Derived.Test.YtimdonbcgiakgaaGreatRows
import Derived.ProofKit
set_option linter.unusedVariables false
set_option linter.unusedSimpArgs false
set_option linter.unusedSectionVars false
set_option linter.deprecated false
namespace Go.Proofs.YtimdonbcgiakgaaGreat.fnRuleFields
open Go Go.VC
theorem j0:(Rows.fnRuleFieldsUptoRow.wf (OpenSpec.ofChange (Rows.OpenSpec.upto Rows.fnRuleFieldsSpec).bare))=true:=by kernel_rfl
theorem j1:(laidOutB Tryz.pinned.checked.prog)=true:=g1
theorem j2:(mapsRowed Tryz.pinned.checked.prog)=true:=g2
theorem j3:(Tryz.f5.params.all (Tryz.pinned.checked.prog.readableRec ·))=true:=by kernel_rfl
theorem j4:(namedTie Tryz.pinned.checked.prog Rows.fnRuleFieldsUptoRow.named (Rows.OpenSpec.upto Rows.fnRuleFieldsSpec).bare.vars)=true:=by kernel_rfl
theorem j5:(Rows.fnRuleFieldsUptoRow.stops==[])=true:=by kernel_rfl
theorem j6:(Tryz.pinned.checked.prog.stops==[])=true:=g6
theorem j7:(Rows.fnRuleFieldsUptoRow.knobs==[])=true:=by kernel_rfl
theorem j8:(Tryz.pinned.checked.prog.stopKnobs==[])=true:=g8
theorem j9:(Rows.fnRuleFieldsUptoRow.inPlace==Tryz.pinned.checked.prog.inPlace 5)=true:=by kernel_rfl
theorem j10:(Rows.fnRuleFieldsUptoRow.unfollowed==Tryz.pinned.checked.prog.unfollowed 5)=true:=by kernel_rfl
theorem j11:(Rows.fnRuleFieldsUptoRow.recurses==Tryz.pinned.checked.prog.recurses 5)=true:=by kernel_rfl
theorem j12:(Rows.fnRuleFieldsUptoRow.named==Tryz.pinned.checked.prog.varsNamed 5)=true:=by kernel_rfl
theorem j13:(Rows.fnRuleFieldsUptoRow.maps==(Tryz.f5.params.toList++(Rows.OpenSpec.upto Rows.fnRuleFieldsSpec).bare.plain.varTypes Tryz.pinned.checked.prog).any (Tryz.pinned.checked.prog.mapsRec ·))=true:=by kernel_rfl
theorem j14:(Rows.fnRuleFieldsUptoRow.ifaces==(Tryz.f5.params.toList++(Rows.OpenSpec.upto Rows.fnRuleFieldsSpec).bare.plain.varTypes Tryz.pinned.checked.prog).any (Tryz.pinned.checked.prog.ifacesRec ·))=true:=by kernel_rfl
theorem j15:(Rows.fnRuleFieldsUptoRow.mapsOut==Tryz.pinned.checked.prog.mapsAmong Tryz.f5.resultTypes.toList)=true:=by kernel_rfl
theorem j16:(Rows.fnRuleFieldsUptoRow.loops==(Tryz.f5.params.toList++(Rows.OpenSpec.upto Rows.fnRuleFieldsSpec).bare.plain.varTypes Tryz.pinned.checked.prog).any (Tryz.pinned.checked.prog.loopsFrom ·))=true:=by kernel_rfl
theorem j17:(Rows.fnRuleFieldsUptoRow.wideKeys==(Tryz.f5.params.toList++(Rows.OpenSpec.upto Rows.fnRuleFieldsSpec).bare.plain.varTypes Tryz.pinned.checked.prog++Tryz.f5.resultTypes.toList).any (Tryz.pinned.checked.prog.wideKeysFrom ·))=true:=by kernel_rfl
theorem j18:((Rows.OpenSpec.upto Rows.fnRuleFieldsSpec).bare.vars.all (Tryz.pinned.checked.prog.varReadable ·))=true:=by kernel_rfl
theorem j19:(Tryz.f5.resultTypes.all (fun t=>Tryz.pinned.checked.prog.readableRec t&&decide (t<Tryz.pinned.checked.prog.types.size)))=true:=by kernel_rfl
theorem j20:(Rows.fnRuleFieldsUptoRow.ifacesOut==Tryz.f5.resultTypes.toList.any (Tryz.pinned.checked.prog.ifacesRec ·))=true:=by kernel_rfl
theorem j21:(Rows.fnRuleFieldsUptoRow.loopsOut==Tryz.f5.resultTypes.toList.any (Tryz.pinned.checked.prog.loopsFrom ·))=true:=by kernel_rfl
theorem j22:(Rows.fnRuleFieldsUptoRow.plainKeys==Tryz.pinned.checked.prog.plainKeys)=true:=by kernel_rfl
theorem j23:(Rows.fnRuleFieldsUptoRow.shortTexts.isNone)=true:=by kernel_rfl
theorem j24:(Tryz.pinned.checked.prog.stopsHeard)=true:=g24
theorem j25:(Tryz.pinned.checked.prog.mayEnter)=true:=g25
theorem j26:(Rows.fnRuleFieldsUptoRow.lifted==Tryz.pinned.checked.prog.liftsFinal)=true:=by kernel_rfl
theorem j27:(Tryz.pinned.checked.prog.make==some Rows.fnRuleFieldsUptoRow.make)=true:=by kernel_rfl
theorem j28:Rows.fnRuleFieldsUptoRow.domain.isEmpty=true:=rfl
theorem k28:Rows.fnRuleFieldsUptoRow.kinds=[]:=rfl
theorem j29:(Rows.fnRuleFieldsUptoRow.pinned==Rows.fnRuleFieldsUptoRow.pinnedBy)=true:=by kernel_rfl
theorem j30:(Rows.fnRuleFieldsUptoRow.veiled==(Tryz.f5.params.toList++(Rows.OpenSpec.upto Rows.fnRuleFieldsSpec).bare.plain.varTypes Tryz.pinned.checked.prog++Tryz.f5.resultTypes.toList).any (Tryz.pinned.checked.prog.veiledRec ·))=true:=by kernel_rfl
theorem j31:(Rows.fnRuleFieldsUptoRow.veiledFits Tryz.pinned.checked.prog Tryz.f5.params.toList (Tryz.f5.params.toList++(Rows.OpenSpec.upto Rows.fnRuleFieldsSpec).bare.plain.varTypes Tryz.pinned.checked.prog++Tryz.f5.resultTypes.toList))=true:=by kernel_rfl
theorem n_p:joinedFacts Tryz.pinned.checked.prog 5 Tryz.f5 (Rows.OpenSpec.upto Rows.fnRuleFieldsSpec).bare Rows.fnRuleFieldsUptoRow=true:=
 m_p j0 j1 j2 j3 j4 j5 j6 j7 j8 j9 j10 j11 j12 j13 j14 j15 j16 j17 j18 j19 j20 j21 j22 j23 j24 j25 j26 j27 j28 k28 j29 j30 j31
theorem o_i:Tryz.pinned.checked.prog.funcNamed Rows.fnRuleFieldsUptoRow.func=some 5:=by kernel_rfl
theorem o_V:Tryz.f5.isInstance Tryz.pinned.checked.prog Rows.fnRuleFieldsUptoRow.origin Rows.fnRuleFieldsUptoRow.targs:=odt (by kernel_rfl)
theorem p_e:Tryz.f5.isWrapper Tryz.pinned.checked.prog Rows.fnRuleFieldsUptoRow.wrapper Rows.fnRuleFieldsUptoRow.mainSum:=by unfold Func.isWrapper;first|(rw [if_pos (by decide +kernel)];kernel_rfl)|(rw [if_neg (by decide +kernel)];exact ⟨rfl,rfl⟩)
end Go.Proofs.YtimdonbcgiakgaaGreat.fnRuleFields
