/- Part of the proof of a law of a rule over documents (DtB), where what the arguments hold is of bulk at most 1048576. -/
import Derived.Test.YtimdonbcgiakgaaGreatReadA
import Derived.Test.YtimdonbcgiakgaaGreatHeld
import Derived.Test.YtimdonbcgiakgaaGreatRows
import Derived.ProofKit
set_option linter.unusedVariables false
set_option linter.unusedSimpArgs false
set_option linter.unusedSectionVars false
set_option linter.deprecated false
namespace Go.Proofs.YtimdonbcgiakgaaGreat.fnRuleDirsTwice
open Go Go.VC
theorem j0:(Rows.fnRuleDirsTwiceUptoRow.wf (OpenSpec.ofChange (Rows.OpenSpec.upto Rows.fnRuleDirsTwiceSpec).bare))=true:=by kernel_rfl
theorem j1:(laidOutB Tryz.pinned.checked.prog)=true:=g1
theorem j2:(mapsRowed Tryz.pinned.checked.prog)=true:=g2
theorem j3:(Tryz.f8.params.all (Tryz.pinned.checked.prog.readableRec ·))=true:=by kernel_rfl
theorem j4:(namedTie Tryz.pinned.checked.prog Rows.fnRuleDirsTwiceUptoRow.named (Rows.OpenSpec.upto Rows.fnRuleDirsTwiceSpec).bare.vars)=true:=by kernel_rfl
theorem j5:(Rows.fnRuleDirsTwiceUptoRow.stops==[])=true:=by kernel_rfl
theorem j6:(Tryz.pinned.checked.prog.stops==[])=true:=g6
theorem j7:(Rows.fnRuleDirsTwiceUptoRow.knobs==[])=true:=by kernel_rfl
theorem j8:(Tryz.pinned.checked.prog.stopKnobs==[])=true:=g8
theorem j9:(Rows.fnRuleDirsTwiceUptoRow.inPlace==Tryz.pinned.checked.prog.inPlace 8)=true:=by kernel_rfl
theorem j10:(Rows.fnRuleDirsTwiceUptoRow.unfollowed==Tryz.pinned.checked.prog.unfollowed 8)=true:=by kernel_rfl
theorem j11:(Rows.fnRuleDirsTwiceUptoRow.recurses==Tryz.pinned.checked.prog.recurses 8)=true:=by kernel_rfl
theorem j12:(Rows.fnRuleDirsTwiceUptoRow.named==Tryz.pinned.checked.prog.varsNamed 8)=true:=by kernel_rfl
theorem j13:(Rows.fnRuleDirsTwiceUptoRow.maps==(Tryz.f8.params.toList++(Rows.OpenSpec.upto Rows.fnRuleDirsTwiceSpec).bare.plain.varTypes Tryz.pinned.checked.prog).any (Tryz.pinned.checked.prog.mapsRec ·))=true:=by kernel_rfl
theorem j14:(Rows.fnRuleDirsTwiceUptoRow.ifaces==(Tryz.f8.params.toList++(Rows.OpenSpec.upto Rows.fnRuleDirsTwiceSpec).bare.plain.varTypes Tryz.pinned.checked.prog).any (Tryz.pinned.checked.prog.ifacesRec ·))=true:=by kernel_rfl
theorem j15:(Rows.fnRuleDirsTwiceUptoRow.mapsOut==Tryz.pinned.checked.prog.mapsAmong Tryz.f8.resultTypes.toList)=true:=by kernel_rfl
theorem j16:(Rows.fnRuleDirsTwiceUptoRow.loops==(Tryz.f8.params.toList++(Rows.OpenSpec.upto Rows.fnRuleDirsTwiceSpec).bare.plain.varTypes Tryz.pinned.checked.prog).any (Tryz.pinned.checked.prog.loopsFrom ·))=true:=by kernel_rfl
theorem j17:(Rows.fnRuleDirsTwiceUptoRow.wideKeys==(Tryz.f8.params.toList++(Rows.OpenSpec.upto Rows.fnRuleDirsTwiceSpec).bare.plain.varTypes Tryz.pinned.checked.prog++Tryz.f8.resultTypes.toList).any (Tryz.pinned.checked.prog.wideKeysFrom ·))=true:=by kernel_rfl
theorem j18:((Rows.OpenSpec.upto Rows.fnRuleDirsTwiceSpec).bare.vars.all (Tryz.pinned.checked.prog.varReadable ·))=true:=by kernel_rfl
theorem j19:(Tryz.f8.resultTypes.all (fun t=>Tryz.pinned.checked.prog.readableRec t&&decide (t<Tryz.pinned.checked.prog.types.size)))=true:=by kernel_rfl
theorem j20:(Rows.fnRuleDirsTwiceUptoRow.ifacesOut==Tryz.f8.resultTypes.toList.any (Tryz.pinned.checked.prog.ifacesRec ·))=true:=by kernel_rfl
theorem j21:(Rows.fnRuleDirsTwiceUptoRow.loopsOut==Tryz.f8.resultTypes.toList.any (Tryz.pinned.checked.prog.loopsFrom ·))=true:=by kernel_rfl
theorem j22:(Rows.fnRuleDirsTwiceUptoRow.plainKeys==Tryz.pinned.checked.prog.plainKeys)=true:=by kernel_rfl
theorem j23:(Rows.fnRuleDirsTwiceUptoRow.shortTexts.isNone)=true:=by kernel_rfl
theorem j24:(Tryz.pinned.checked.prog.stopsHeard)=true:=g24
theorem j25:(Tryz.pinned.checked.prog.mayEnter)=true:=g25
theorem j26:(Rows.fnRuleDirsTwiceUptoRow.lifted==Tryz.pinned.checked.prog.liftsFinal)=true:=by kernel_rfl
theorem j27:(Tryz.pinned.checked.prog.make==some Rows.fnRuleDirsTwiceUptoRow.make)=true:=by kernel_rfl
theorem j28:Rows.fnRuleDirsTwiceUptoRow.domain.isEmpty=true:=rfl
theorem k28:Rows.fnRuleDirsTwiceUptoRow.kinds=[]:=rfl
theorem j29:(Rows.fnRuleDirsTwiceUptoRow.pinned==Rows.fnRuleDirsTwiceUptoRow.pinnedBy)=true:=by kernel_rfl
theorem j30:(Rows.fnRuleDirsTwiceUptoRow.veiled==(Tryz.f8.params.toList++(Rows.OpenSpec.upto Rows.fnRuleDirsTwiceSpec).bare.plain.varTypes Tryz.pinned.checked.prog++Tryz.f8.resultTypes.toList).any (Tryz.pinned.checked.prog.veiledRec ·))=true:=by kernel_rfl
theorem j31:(Rows.fnRuleDirsTwiceUptoRow.veiledFits Tryz.pinned.checked.prog Tryz.f8.params.toList (Tryz.f8.params.toList++(Rows.OpenSpec.upto Rows.fnRuleDirsTwiceSpec).bare.plain.varTypes Tryz.pinned.checked.prog++Tryz.f8.resultTypes.toList))=true:=by kernel_rfl
theorem closed_f:joinedFacts Tryz.pinned.checked.prog 8 Tryz.f8 (Rows.OpenSpec.upto Rows.fnRuleDirsTwiceSpec).bare Rows.fnRuleDirsTwiceUptoRow=true:=
 joined_of j0 j1 j2 j3 j4 j5 j6 j7 j8 j9 j10 j11 j12 j13 j14 j15 j16 j17 j18 j19 j20 j21 j22 j23 j24 j25 j26 j27 j28 k28 j29 j30 j31
theorem named_f:Tryz.pinned.checked.prog.funcNamed Rows.fnRuleDirsTwiceUptoRow.func=some 8:=by kernel_rfl
theorem inst_f:Tryz.f8.isInstance Tryz.pinned.checked.prog Rows.fnRuleDirsTwiceUptoRow.origin Rows.fnRuleDirsTwiceUptoRow.targs:=odt (by kernel_rfl)
theorem wrap_f:Tryz.f8.isWrapper Tryz.pinned.checked.prog Rows.fnRuleDirsTwiceUptoRow.wrapper Rows.fnRuleDirsTwiceUptoRow.mainSum:=by unfold Func.isWrapper;first|(rw [if_pos (by decide +kernel)];kernel_rfl)|(rw [if_neg (by decide +kernel)];exact ⟨rfl,rfl⟩)
end Go.Proofs.YtimdonbcgiakgaaGreat.fnRuleDirsTwice
