/- Part of the proof of a law of a rule over documents (LfB), where what the arguments hold is of bulk at most 1048576. -/
import Derived.Test.YtimdonbcgiakgaaGreatReadA
import Derived.Test.YtimdonbcgiakgaaGreatHeld
import Derived.Test.YtimdonbcgiakgaaGreatRows
import Derived.ProofKit
set_option linter.unusedVariables false
set_option linter.unusedSimpArgs false
set_option linter.unusedSectionVars false
set_option linter.deprecated false
namespace Go.Proofs.YtimdonbcgiakgaaGreat.fnRuleLeafs
open Go Go.VC
theorem j0:(Rows.fnRuleLeafsUptoRow.wf (OpenSpec.ofChange (Rows.OpenSpec.upto Rows.fnRuleLeafsSpec).bare))=true:=by kernel_rfl
theorem j1:(laidOutB Tryz.pinned.checked.prog)=true:=g1
theorem j2:(mapsRowed Tryz.pinned.checked.prog)=true:=g2
theorem j3:(Tryz.f4.params.all (Tryz.pinned.checked.prog.readableRec ·))=true:=by kernel_rfl
theorem j4:(namedTie Tryz.pinned.checked.prog Rows.fnRuleLeafsUptoRow.named (Rows.OpenSpec.upto Rows.fnRuleLeafsSpec).bare.vars)=true:=by kernel_rfl
theorem j5:(Rows.fnRuleLeafsUptoRow.stops==[])=true:=by kernel_rfl
theorem j6:(Tryz.pinned.checked.prog.stops==[])=true:=g6
theorem j7:(Rows.fnRuleLeafsUptoRow.knobs==[])=true:=by kernel_rfl
theorem j8:(Tryz.pinned.checked.prog.stopKnobs==[])=true:=g8
theorem j9:(Rows.fnRuleLeafsUptoRow.inPlace==Tryz.pinned.checked.prog.inPlace 4)=true:=by kernel_rfl
theorem j10:(Rows.fnRuleLeafsUptoRow.unfollowed==Tryz.pinned.checked.prog.unfollowed 4)=true:=by kernel_rfl
theorem j11:(Rows.fnRuleLeafsUptoRow.recurses==Tryz.pinned.checked.prog.recurses 4)=true:=by kernel_rfl
theorem j12:(Rows.fnRuleLeafsUptoRow.named==Tryz.pinned.checked.prog.varsNamed 4)=true:=by kernel_rfl
theorem j13:(Rows.fnRuleLeafsUptoRow.maps==(Tryz.f4.params.toList++(Rows.OpenSpec.upto Rows.fnRuleLeafsSpec).bare.plain.varTypes Tryz.pinned.checked.prog).any (Tryz.pinned.checked.prog.mapsRec ·))=true:=by kernel_rfl
theorem j14:(Rows.fnRuleLeafsUptoRow.ifaces==(Tryz.f4.params.toList++(Rows.OpenSpec.upto Rows.fnRuleLeafsSpec).bare.plain.varTypes Tryz.pinned.checked.prog).any (Tryz.pinned.checked.prog.ifacesRec ·))=true:=by kernel_rfl
theorem j15:(Rows.fnRuleLeafsUptoRow.mapsOut==Tryz.pinned.checked.prog.mapsAmong Tryz.f4.resultTypes.toList)=true:=by kernel_rfl
theorem j16:(Rows.fnRuleLeafsUptoRow.loops==(Tryz.f4.params.toList++(Rows.OpenSpec.upto Rows.fnRuleLeafsSpec).bare.plain.varTypes Tryz.pinned.checked.prog).any (Tryz.pinned.checked.prog.loopsFrom ·))=true:=by kernel_rfl
theorem j17:(Rows.fnRuleLeafsUptoRow.wideKeys==(Tryz.f4.params.toList++(Rows.OpenSpec.upto Rows.fnRuleLeafsSpec).bare.plain.varTypes Tryz.pinned.checked.prog++Tryz.f4.resultTypes.toList).any (Tryz.pinned.checked.prog.wideKeysFrom ·))=true:=by kernel_rfl
theorem j18:((Rows.OpenSpec.upto Rows.fnRuleLeafsSpec).bare.vars.all (Tryz.pinned.checked.prog.varReadable ·))=true:=by kernel_rfl
theorem j19:(Tryz.f4.resultTypes.all (fun t=>Tryz.pinned.checked.prog.readableRec t&&decide (t<Tryz.pinned.checked.prog.types.size)))=true:=by kernel_rfl
theorem j20:(Rows.fnRuleLeafsUptoRow.ifacesOut==Tryz.f4.resultTypes.toList.any (Tryz.pinned.checked.prog.ifacesRec ·))=true:=by kernel_rfl
theorem j21:(Rows.fnRuleLeafsUptoRow.loopsOut==Tryz.f4.resultTypes.toList.any (Tryz.pinned.checked.prog.loopsFrom ·))=true:=by kernel_rfl
theorem j22:(Rows.fnRuleLeafsUptoRow.plainKeys==Tryz.pinned.checked.prog.plainKeys)=true:=by kernel_rfl
theorem j23:(Rows.fnRuleLeafsUptoRow.shortTexts.isNone)=true:=by kernel_rfl
theorem j24:(Tryz.pinned.checked.prog.stopsHeard)=true:=g24
theorem j25:(Tryz.pinned.checked.prog.mayEnter)=true:=g25
theorem j26:(Rows.fnRuleLeafsUptoRow.lifted==Tryz.pinned.checked.prog.liftsFinal)=true:=by kernel_rfl
theorem j27:(Tryz.pinned.checked.prog.make==some Rows.fnRuleLeafsUptoRow.make)=true:=by kernel_rfl
theorem j28:Rows.fnRuleLeafsUptoRow.domain.isEmpty=true:=rfl
theorem k28:Rows.fnRuleLeafsUptoRow.kinds=[]:=rfl
theorem j29:(Rows.fnRuleLeafsUptoRow.pinned==Rows.fnRuleLeafsUptoRow.pinnedBy)=true:=by kernel_rfl
theorem j30:(Rows.fnRuleLeafsUptoRow.veiled==(Tryz.f4.params.toList++(Rows.OpenSpec.upto Rows.fnRuleLeafsSpec).bare.plain.varTypes Tryz.pinned.checked.prog++Tryz.f4.resultTypes.toList).any (Tryz.pinned.checked.prog.veiledRec ·))=true:=by kernel_rfl
theorem j31:(Rows.fnRuleLeafsUptoRow.veiledFits Tryz.pinned.checked.prog Tryz.f4.params.toList (Tryz.f4.params.toList++(Rows.OpenSpec.upto Rows.fnRuleLeafsSpec).bare.plain.varTypes Tryz.pinned.checked.prog++Tryz.f4.resultTypes.toList))=true:=by kernel_rfl
theorem n_p:joinedFacts Tryz.pinned.checked.prog 4 Tryz.f4 (Rows.OpenSpec.upto Rows.fnRuleLeafsSpec).bare Rows.fnRuleLeafsUptoRow=true:=
 m_p j0 j1 j2 j3 j4 j5 j6 j7 j8 j9 j10 j11 j12 j13 j14 j15 j16 j17 j18 j19 j20 j21 j22 j23 j24 j25 j26 j27 j28 k28 j29 j30 j31
theorem o_i:Tryz.pinned.checked.prog.funcNamed Rows.fnRuleLeafsUptoRow.func=some 4:=by kernel_rfl
theorem o_V:Tryz.f4.isInstance Tryz.pinned.checked.prog Rows.fnRuleLeafsUptoRow.origin Rows.fnRuleLeafsUptoRow.targs:=odt (by kernel_rfl)
theorem p_e:Tryz.f4.isWrapper Tryz.pinned.checked.prog Rows.fnRuleLeafsUptoRow.wrapper Rows.fnRuleLeafsUptoRow.mainSum:=by unfold Func.isWrapper;first|(rw [if_pos (by decide +kernel)];kernel_rfl)|(rw [if_neg (by decide +kernel)];exact ⟨rfl,rfl⟩)
end Go.Proofs.YtimdonbcgiakgaaGreat.fnRuleLeafs
