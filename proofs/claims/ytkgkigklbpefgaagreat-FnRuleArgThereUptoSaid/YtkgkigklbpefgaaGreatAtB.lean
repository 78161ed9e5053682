/- Part of the proof of a law of a rule over documents (AtB), where what the arguments hold is of bulk at most 1048576. -/
import Derived.Test.YtkgkigklbpefgaaGreatReadA
import Derived.Test.YtkgkigklbpefgaaGreatHeld
import Derived.Test.YtkgkigklbpefgaaGreatRows
import Derived.ProofKit
set_option linter.unusedVariables false
set_option linter.unusedSimpArgs false
set_option linter.unusedSectionVars false
set_option linter.deprecated false
namespace Go.Proofs.YtkgkigklbpefgaaGreat.fnRuleArgThere
open Go Go.VC
theorem j0:(Rows.fnRuleArgThereUptoRow.wf (OpenSpec.ofChange (Rows.OpenSpec.upto Rows.fnRuleArgThereSpec).bare))=true:=by kernel_rfl
theorem j1:(laidOutB Tryz.pinned.checked.prog)=true:=g1
theorem j2:(mapsRowed Tryz.pinned.checked.prog)=true:=g2
theorem j3:(Tryz.f10.params.all (Tryz.pinned.checked.prog.readableRec ·))=true:=by kernel_rfl
theorem j4:(namedTie Tryz.pinned.checked.prog Rows.fnRuleArgThereUptoRow.named (Rows.OpenSpec.upto Rows.fnRuleArgThereSpec).bare.vars)=true:=by kernel_rfl
theorem j5:(Rows.fnRuleArgThereUptoRow.stops==[])=true:=by kernel_rfl
theorem j6:(Tryz.pinned.checked.prog.stops==[])=true:=g6
theorem j7:(Rows.fnRuleArgThereUptoRow.knobs==[])=true:=by kernel_rfl
theorem j8:(Tryz.pinned.checked.prog.stopKnobs==[])=true:=g8
theorem j9:(Rows.fnRuleArgThereUptoRow.inPlace==Tryz.pinned.checked.prog.inPlace 10)=true:=by kernel_rfl
theorem j10:(Rows.fnRuleArgThereUptoRow.unfollowed==Tryz.pinned.checked.prog.unfollowed 10)=true:=by kernel_rfl
theorem j11:(Rows.fnRuleArgThereUptoRow.recurses==Tryz.pinned.checked.prog.recurses 10)=true:=by kernel_rfl
theorem j12:(Rows.fnRuleArgThereUptoRow.named==Tryz.pinned.checked.prog.varsNamed 10)=true:=by kernel_rfl
theorem j13:(Rows.fnRuleArgThereUptoRow.maps==(Tryz.f10.params.toList++(Rows.OpenSpec.upto Rows.fnRuleArgThereSpec).bare.plain.varTypes Tryz.pinned.checked.prog).any (Tryz.pinned.checked.prog.mapsRec ·))=true:=by kernel_rfl
theorem j14:(Rows.fnRuleArgThereUptoRow.ifaces==(Tryz.f10.params.toList++(Rows.OpenSpec.upto Rows.fnRuleArgThereSpec).bare.plain.varTypes Tryz.pinned.checked.prog).any (Tryz.pinned.checked.prog.ifacesRec ·))=true:=by kernel_rfl
theorem j15:(Rows.fnRuleArgThereUptoRow.mapsOut==Tryz.pinned.checked.prog.mapsAmong Tryz.f10.resultTypes.toList)=true:=by kernel_rfl
theorem j16:(Rows.fnRuleArgThereUptoRow.loops==(Tryz.f10.params.toList++(Rows.OpenSpec.upto Rows.fnRuleArgThereSpec).bare.plain.varTypes Tryz.pinned.checked.prog).any (Tryz.pinned.checked.prog.loopsFrom ·))=true:=by kernel_rfl
theorem j17:(Rows.fnRuleArgThereUptoRow.wideKeys==(Tryz.f10.params.toList++(Rows.OpenSpec.upto Rows.fnRuleArgThereSpec).bare.plain.varTypes Tryz.pinned.checked.prog++Tryz.f10.resultTypes.toList).any (Tryz.pinned.checked.prog.wideKeysFrom ·))=true:=by kernel_rfl
theorem j18:((Rows.OpenSpec.upto Rows.fnRuleArgThereSpec).bare.vars.all (Tryz.pinned.checked.prog.varReadable ·))=true:=by kernel_rfl
theorem j19:(Tryz.f10.resultTypes.all (fun t=>Tryz.pinned.checked.prog.readableRec t&&decide (t<Tryz.pinned.checked.prog.types.size)))=true:=by kernel_rfl
theorem j20:(Rows.fnRuleArgThereUptoRow.ifacesOut==Tryz.f10.resultTypes.toList.any (Tryz.pinned.checked.prog.ifacesRec ·))=true:=by kernel_rfl
theorem j21:(Rows.fnRuleArgThereUptoRow.loopsOut==Tryz.f10.resultTypes.toList.any (Tryz.pinned.checked.prog.loopsFrom ·))=true:=by kernel_rfl
theorem j22:(Rows.fnRuleArgThereUptoRow.plainKeys==Tryz.pinned.checked.prog.plainKeys)=true:=by kernel_rfl
theorem j23:(Rows.fnRuleArgThereUptoRow.shortTexts.isNone)=true:=by kernel_rfl
theorem j24:(Tryz.pinned.checked.prog.stopsHeard)=true:=g24
theorem j25:(Tryz.pinned.checked.prog.mayEnter)=true:=g25
theorem j26:(Rows.fnRuleArgThereUptoRow.lifted==Tryz.pinned.checked.prog.liftsFinal)=true:=by kernel_rfl
theorem j27:(Tryz.pinned.checked.prog.make==some Rows.fnRuleArgThereUptoRow.make)=true:=by kernel_rfl
theorem j28:Rows.fnRuleArgThereUptoRow.domain.isEmpty=true:=rfl
theorem k28:Rows.fnRuleArgThereUptoRow.kinds=[]:=rfl
theorem j29:(Rows.fnRuleArgThereUptoRow.pinned==Rows.fnRuleArgThereUptoRow.pinnedBy)=true:=by kernel_rfl
theorem j30:(Rows.fnRuleArgThereUptoRow.veiled==(Tryz.f10.params.toList++(Rows.OpenSpec.upto Rows.fnRuleArgThereSpec).bare.plain.varTypes Tryz.pinned.checked.prog++Tryz.f10.resultTypes.toList).any (Tryz.pinned.checked.prog.veiledRec ·))=true:=by kernel_rfl
theorem j31:(Rows.fnRuleArgThereUptoRow.veiledFits Tryz.pinned.checked.prog Tryz.f10.params.toList (Tryz.f10.params.toList++(Rows.OpenSpec.upto Rows.fnRuleArgThereSpec).bare.plain.varTypes Tryz.pinned.checked.prog++Tryz.f10.resultTypes.toList))=true:=by kernel_rfl
theorem n_p:joinedFacts Tryz.pinned.checked.prog 10 Tryz.f10 (Rows.OpenSpec.upto Rows.fnRuleArgThereSpec).bare Rows.fnRuleArgThereUptoRow=true:=
 m_p j0 j1 j2 j3 j4 j5 j6 j7 j8 j9 j10 j11 j12 j13 j14 j15 j16 j17 j18 j19 j20 j21 j22 j23 j24 j25 j26 j27 j28 k28 j29 j30 j31
theorem o_i:Tryz.pinned.checked.prog.funcNamed Rows.fnRuleArgThereUptoRow.func=some 10:=by kernel_rfl
theorem o_V:Tryz.f10.isInstance Tryz.pinned.checked.prog Rows.fnRuleArgThereUptoRow.origin Rows.fnRuleArgThereUptoRow.targs:=odt (by kernel_rfl)
theorem p_e:Tryz.f10.isWrapper Tryz.pinned.checked.prog Rows.fnRuleArgThereUptoRow.wrapper Rows.fnRuleArgThereUptoRow.mainSum:=by unfold Func.isWrapper;first|(rw [if_pos (by decide +kernel)];kernel_rfl)|(rw [if_neg (by decide +kernel)];exact ⟨rfl,rfl⟩)
end Go.Proofs.YtkgkigklbpefgaaGreat.fnRuleArgThere
