/- Part of the proof of a law of a rule over documents (DiB), where what the arguments hold is of bulk at most 1048576. -/
import Derived.Test.YtkgkigklbpefgaaGreatReadA
import Derived.Test.YtkgkigklbpefgaaGreatHeld
import Derived.Test.YtkgkigklbpefgaaGreatRows
import Derived.ProofKit
set_option linter.unusedVariables false
namespace Go.Proofs.YtkgkigklbpefgaaGreat.fnRuleDirs
open Go Go.VC
theorem j0:(Rows.fnRuleDirsUptoRow.wf (OpenSpec.ofChange (Rows.OpenSpec.upto Rows.fnRuleDirsSpec).bare))=true:=by kernel_rfl
theorem j1:(laidOutB Tryz.pinned.checked.prog)=true:=g1
theorem j2:(mapsRowed Tryz.pinned.checked.prog)=true:=g2
theorem j3:(Tryz.f4.params.all (Tryz.pinned.checked.prog.readableRec ·))=true:=by kernel_rfl
theorem j4:(namedTie Tryz.pinned.checked.prog Rows.fnRuleDirsUptoRow.named (Rows.OpenSpec.upto Rows.fnRuleDirsSpec).bare.vars)=true:=by kernel_rfl
theorem j5:(Rows.fnRuleDirsUptoRow.stops==[])=true:=by kernel_rfl
theorem j6:(Tryz.pinned.checked.prog.stops==[])=true:=g6
theorem j7:(Rows.fnRuleDirsUptoRow.knobs==[])=true:=by kernel_rfl
theorem j8:(Tryz.pinned.checked.prog.stopKnobs==[])=true:=g8
theorem j9:(Rows.fnRuleDirsUptoRow.inPlace==Tryz.pinned.checked.prog.inPlace 4)=true:=by kernel_rfl
theorem j10:(Rows.fnRuleDirsUptoRow.unfollowed==Tryz.pinned.checked.prog.unfollowed 4)=true:=by kernel_rfl
theorem j11:(Rows.fnRuleDirsUptoRow.recurses==Tryz.pinned.checked.prog.recurses 4)=true:=by kernel_rfl
theorem j12:(Rows.fnRuleDirsUptoRow.named==Tryz.pinned.checked.prog.varsNamed 4)=true:=by kernel_rfl
theorem j13:(Rows.fnRuleDirsUptoRow.maps==(Tryz.f4.params.toList++(Rows.OpenSpec.upto Rows.fnRuleDirsSpec).bare.plain.varTypes Tryz.pinned.checked.prog).any (Tryz.pinned.checked.prog.mapsRec ·))=true:=by kernel_rfl
theorem j14:(Rows.fnRuleDirsUptoRow.ifaces==(Tryz.f4.params.toList++(Rows.OpenSpec.upto Rows.fnRuleDirsSpec).bare.plain.varTypes Tryz.pinned.checked.prog).any (Tryz.pinned.checked.prog.ifacesRec ·))=true:=by kernel_rfl
theorem j15:(Rows.fnRuleDirsUptoRow.mapsOut==Tryz.pinned.checked.prog.mapsAmong Tryz.f4.resultTypes.toList)=true:=by kernel_rfl
theorem j16:(Rows.fnRuleDirsUptoRow.loops==(Tryz.f4.params.toList++(Rows.OpenSpec.upto Rows.fnRuleDirsSpec).bare.plain.varTypes Tryz.pinned.checked.prog).any (Tryz.pinned.checked.prog.loopsFrom ·))=true:=by kernel_rfl
theorem j17:(Rows.fnRuleDirsUptoRow.wideKeys==(Tryz.f4.params.toList++(Rows.OpenSpec.upto Rows.fnRuleDirsSpec).bare.plain.varTypes Tryz.pinned.checked.prog++Tryz.f4.resultTypes.toList).any (Tryz.pinned.checked.prog.wideKeysFrom ·))=true:=by kernel_rfl
theorem j18:((Rows.OpenSpec.upto Rows.fnRuleDirsSpec).bare.vars.all (Tryz.pinned.checked.prog.varReadable ·))=true:=by kernel_rfl
theorem j19:(Tryz.f4.resultTypes.all (fun t=>Tryz.pinned.checked.prog.readableRec t&&decide (t<Tryz.pinned.checked.prog.types.size)))=true:=by kernel_rfl
theorem j20:(Rows.fnRuleDirsUptoRow.ifacesOut==Tryz.f4.resultTypes.toList.any (Tryz.pinned.checked.prog.ifacesRec ·))=true:=by kernel_rfl
theorem j21:(Rows.fnRuleDirsUptoRow.loopsOut==Tryz.f4.resultTypes.toList.any (Tryz.pinned.checked.prog.loopsFrom ·))=true:=by kernel_rfl
theorem j22:(Rows.fnRuleDirsUptoRow.plainKeys==Tryz.pinned.checked.prog.plainKeys)=true:=by kernel_rfl
theorem j23:(Rows.fnRuleDirsUptoRow.shortTexts.isNone)=true:=by kernel_rfl
theorem j24:(Tryz.pinned.checked.prog.stopsHeard)=true:=g24
theorem j25:(Tryz.pinned.checked.prog.mayEnter)=true:=g25
theorem j26:(Rows.fnRuleDirsUptoRow.lifted==Tryz.pinned.checked.prog.liftsFinal)=true:=by kernel_rfl
theorem j27:(Tryz.pinned.checked.prog.make==some Rows.fnRuleDirsUptoRow.make)=true:=by kernel_rfl
theorem j28:Rows.fnRuleDirsUptoRow.domain.isEmpty=true:=rfl
theorem k28:Rows.fnRuleDirsUptoRow.kinds=[]:=rfl
theorem j29:(Rows.fnRuleDirsUptoRow.pinned==Rows.fnRuleDirsUptoRow.pinnedBy)=true:=by kernel_rfl
theorem j30:(Rows.fnRuleDirsUptoRow.veiled==(Tryz.f4.params.toList++(Rows.OpenSpec.upto Rows.fnRuleDirsSpec).bare.plain.varTypes Tryz.pinned.checked.prog++Tryz.f4.resultTypes.toList).any (Tryz.pinned.checked.prog.veiledRec ·))=true:=by kernel_rfl
theorem j31:(Rows.fnRuleDirsUptoRow.veiledFits Tryz.pinned.checked.prog Tryz.f4.params.toList (Tryz.f4.params.toList++(Rows.OpenSpec.upto Rows.fnRuleDirsSpec).bare.plain.varTypes Tryz.pinned.checked.prog++Tryz.f4.resultTypes.toList))=true:=by kernel_rfl
theorem n_p:joinedFacts Tryz.pinned.checked.prog 4 Tryz.f4 (Rows.OpenSpec.upto Rows.fnRuleDirsSpec).bare Rows.fnRuleDirsUptoRow=true:=
 m_p j0 j1 j2 j3 j4 j5 j6 j7 j8 j9 j10 j11 j12 j13 j14 j15 j16 j17 j18 j19 j20 j21 j22 j23 j24 j25 j26 j27 j28 k28 j29 j30 j31
theorem o_i:Tryz.pinned.checked.prog.funcNamed Rows.fnRuleDirsUptoRow.func=some 4:=by kernel_rfl
theorem o_V:Tryz.f4.isInstance Tryz.pinned.checked.prog Rows.fnRuleDirsUptoRow.origin Rows.fnRuleDirsUptoRow.targs:=odt (by kernel_rfl)
theorem p_e:Tryz.f4.isWrapper Tryz.pinned.checked.prog Rows.fnRuleDirsUptoRow.wrapper Rows.fnRuleDirsUptoRow.mainSum:=by unfold Func.isWrapper;first|(rw [if_pos (by decide +kernel)];kernel_rfl)|(rw [if_neg (by decide +kernel)];exact ⟨rfl,rfl⟩)
end Go.Proofs.YtkgkigklbpefgaaGreat.fnRuleDirs
