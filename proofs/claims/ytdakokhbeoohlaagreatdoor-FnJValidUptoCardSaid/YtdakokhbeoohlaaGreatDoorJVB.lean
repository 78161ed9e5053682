/- Part of the proof of a law of a rule over documents (JVB), where what the arguments hold is of bulk at most 1048576. -/
import Derived.Test.YtdakokhbeoohlaaGreatDoorReadA
import Derived.Test.YtdakokhbeoohlaaGreatDoorHeld
import Derived.Test.YtdakokhbeoohlaaGreatDoorRows
import Derived.ProofKit
set_option linter.unusedVariables false
namespace Go.Proofs.YtdakokhbeoohlaaGreatDoor.fnJValid
open Go Go.VC
theorem j0:(Rows.fnJValidUptoRow.wf (OpenSpec.ofChange (Rows.OpenSpec.upto Rows.fnJValidSpec).bare))=true:=by kernel_rfl
theorem j1:(laidOutB Tryz.pinned.checked.prog)=true:=g1
theorem j2:(mapsRowed Tryz.pinned.checked.prog)=true:=g2
theorem j3:(Tryz.f3.params.all (Tryz.pinned.checked.prog.readableRec ·))=true:=by kernel_rfl
theorem j4:(namedTie Tryz.pinned.checked.prog Rows.fnJValidUptoRow.named (Rows.OpenSpec.upto Rows.fnJValidSpec).bare.vars)=true:=by kernel_rfl
theorem j5:(Rows.fnJValidUptoRow.stops==[])=true:=by kernel_rfl
theorem j6:(Tryz.pinned.checked.prog.stops==[])=true:=g6
theorem j7:(Rows.fnJValidUptoRow.knobs==[])=true:=by kernel_rfl
theorem j8:(Tryz.pinned.checked.prog.stopKnobs==[])=true:=g8
theorem j9:(Rows.fnJValidUptoRow.inPlace==Tryz.pinned.checked.prog.inPlace 3)=true:=by kernel_rfl
theorem j10:(Rows.fnJValidUptoRow.unfollowed==Tryz.pinned.checked.prog.unfollowed 3)=true:=by kernel_rfl
theorem j11:(Rows.fnJValidUptoRow.recurses==Tryz.pinned.checked.prog.recurses 3)=true:=by kernel_rfl
theorem j12:(Rows.fnJValidUptoRow.named==Tryz.pinned.checked.prog.varsNamed 3)=true:=by kernel_rfl
theorem j13:(Rows.fnJValidUptoRow.maps==(Tryz.f3.params.toList++(Rows.OpenSpec.upto Rows.fnJValidSpec).bare.plain.varTypes Tryz.pinned.checked.prog).any (Tryz.pinned.checked.prog.mapsRec ·))=true:=by kernel_rfl
theorem j14:(Rows.fnJValidUptoRow.ifaces==(Tryz.f3.params.toList++(Rows.OpenSpec.upto Rows.fnJValidSpec).bare.plain.varTypes Tryz.pinned.checked.prog).any (Tryz.pinned.checked.prog.ifacesRec ·))=true:=by kernel_rfl
theorem j15:(Rows.fnJValidUptoRow.mapsOut==Tryz.pinned.checked.prog.mapsAmong Tryz.f3.resultTypes.toList)=true:=by kernel_rfl
theorem j16:(Rows.fnJValidUptoRow.loops==(Tryz.f3.params.toList++(Rows.OpenSpec.upto Rows.fnJValidSpec).bare.plain.varTypes Tryz.pinned.checked.prog).any (Tryz.pinned.checked.prog.loopsFrom ·))=true:=by kernel_rfl
theorem j17:(Rows.fnJValidUptoRow.wideKeys==(Tryz.f3.params.toList++(Rows.OpenSpec.upto Rows.fnJValidSpec).bare.plain.varTypes Tryz.pinned.checked.prog++Tryz.f3.resultTypes.toList).any (Tryz.pinned.checked.prog.wideKeysFrom ·))=true:=by kernel_rfl
theorem j18:((Rows.OpenSpec.upto Rows.fnJValidSpec).bare.vars.all (Tryz.pinned.checked.prog.varReadable ·))=true:=by kernel_rfl
theorem j19:(Tryz.f3.resultTypes.all (fun t=>Tryz.pinned.checked.prog.readableRec t&&decide (t<Tryz.pinned.checked.prog.types.size)))=true:=by kernel_rfl
theorem j20:(Rows.fnJValidUptoRow.ifacesOut==Tryz.f3.resultTypes.toList.any (Tryz.pinned.checked.prog.ifacesRec ·))=true:=by kernel_rfl
theorem j21:(Rows.fnJValidUptoRow.loopsOut==Tryz.f3.resultTypes.toList.any (Tryz.pinned.checked.prog.loopsFrom ·))=true:=by kernel_rfl
theorem j22:(Rows.fnJValidUptoRow.plainKeys==Tryz.pinned.checked.prog.plainKeys)=true:=by kernel_rfl
theorem j23:(Rows.fnJValidUptoRow.shortTexts.isNone)=true:=by kernel_rfl
theorem j24:(Tryz.pinned.checked.prog.stopsHeard)=true:=g24
theorem j25:(Tryz.pinned.checked.prog.mayEnter)=true:=g25
theorem j26:(Rows.fnJValidUptoRow.lifted==Tryz.pinned.checked.prog.liftsFinal)=true:=by kernel_rfl
theorem j27:(Tryz.pinned.checked.prog.make==some Rows.fnJValidUptoRow.make)=true:=by kernel_rfl
theorem j28:Rows.fnJValidUptoRow.domain.isEmpty=true:=rfl
theorem k28:Rows.fnJValidUptoRow.kinds=[]:=rfl
theorem j29:(Rows.fnJValidUptoRow.pinned==Rows.fnJValidUptoRow.pinnedBy)=true:=by kernel_rfl
theorem j30:(Rows.fnJValidUptoRow.veiled==(Tryz.f3.params.toList++(Rows.OpenSpec.upto Rows.fnJValidSpec).bare.plain.varTypes Tryz.pinned.checked.prog++Tryz.f3.resultTypes.toList).any (Tryz.pinned.checked.prog.veiledRec ·))=true:=by kernel_rfl
theorem j31:(Rows.fnJValidUptoRow.veiledFits Tryz.pinned.checked.prog Tryz.f3.params.toList (Tryz.f3.params.toList++(Rows.OpenSpec.upto Rows.fnJValidSpec).bare.plain.varTypes Tryz.pinned.checked.prog++Tryz.f3.resultTypes.toList))=true:=by kernel_rfl
theorem n_p:joinedFacts Tryz.pinned.checked.prog 3 Tryz.f3 (Rows.OpenSpec.upto Rows.fnJValidSpec).bare Rows.fnJValidUptoRow=true:=
 m_p j0 j1 j2 j3 j4 j5 j6 j7 j8 j9 j10 j11 j12 j13 j14 j15 j16 j17 j18 j19 j20 j21 j22 j23 j24 j25 j26 j27 j28 k28 j29 j30 j31
theorem o_i:Tryz.pinned.checked.prog.funcNamed Rows.fnJValidUptoRow.func=some 3:=by kernel_rfl
theorem o_V:Tryz.f3.isInstance Tryz.pinned.checked.prog Rows.fnJValidUptoRow.origin Rows.fnJValidUptoRow.targs:=odt (by kernel_rfl)
theorem p_e:Tryz.f3.isWrapper Tryz.pinned.checked.prog Rows.fnJValidUptoRow.wrapper Rows.fnJValidUptoRow.mainSum:=by unfold Func.isWrapper;first|(rw [if_pos (by decide +kernel)];kernel_rfl)|(rw [if_neg (by decide +kernel)];exact ⟨rfl,rfl⟩)
end Go.Proofs.YtdakokhbeoohlaaGreatDoor.fnJValid
