/- Part of the proof of a law of a rule over documents (DpB), where what the arguments hold is of bulk at most 1048576. -/
import Derived.Test.YtmnhdjhlcgfpkaaGreatReadA
import Derived.Test.YtmnhdjhlcgfpkaaGreatHeld
import Derived.Test.YtmnhdjhlcgfpkaaGreatRows
import Derived.ProofKit
set_option linter.unusedVariables false
namespace Go.Proofs.YtmnhdjhlcgfpkaaGreat.fnRuleDepth
open Go Go.VC
theorem j0:(Rows.fnRuleDepthUptoRow.wf (OpenSpec.ofChange (Rows.OpenSpec.upto Rows.fnRuleDepthSpec).bare))=true:=by kernel_rfl
theorem j1:(laidOutB Tryz.pinned.checked.prog)=true:=g1
theorem j2:(mapsRowed Tryz.pinned.checked.prog)=true:=g2
theorem j3:(Tryz.f7.params.all (Tryz.pinned.checked.prog.readableRec ·))=true:=by kernel_rfl
theorem j4:(namedTie Tryz.pinned.checked.prog Rows.fnRuleDepthUptoRow.named (Rows.OpenSpec.upto Rows.fnRuleDepthSpec).bare.vars)=true:=by kernel_rfl
theorem j5:(Rows.fnRuleDepthUptoRow.stops==[])=true:=by kernel_rfl
theorem j6:(Tryz.pinned.checked.prog.stops==[])=true:=g6
theorem j7:(Rows.fnRuleDepthUptoRow.knobs==[])=true:=by kernel_rfl
theorem j8:(Tryz.pinned.checked.prog.stopKnobs==[])=true:=g8
theorem j9:(Rows.fnRuleDepthUptoRow.inPlace==Tryz.pinned.checked.prog.inPlace 7)=true:=by kernel_rfl
theorem j10:(Rows.fnRuleDepthUptoRow.unfollowed==Tryz.pinned.checked.prog.unfollowed 7)=true:=by kernel_rfl
theorem j11:(Rows.fnRuleDepthUptoRow.recurses==Tryz.pinned.checked.prog.recurses 7)=true:=by kernel_rfl
theorem j12:(Rows.fnRuleDepthUptoRow.named==Tryz.pinned.checked.prog.varsNamed 7)=true:=by kernel_rfl
theorem j13:(Rows.fnRuleDepthUptoRow.maps==(Tryz.f7.params.toList++(Rows.OpenSpec.upto Rows.fnRuleDepthSpec).bare.plain.varTypes Tryz.pinned.checked.prog).any (Tryz.pinned.checked.prog.mapsRec ·))=true:=by kernel_rfl
theorem j14:(Rows.fnRuleDepthUptoRow.ifaces==(Tryz.f7.params.toList++(Rows.OpenSpec.upto Rows.fnRuleDepthSpec).bare.plain.varTypes Tryz.pinned.checked.prog).any (Tryz.pinned.checked.prog.ifacesRec ·))=true:=by kernel_rfl
theorem j15:(Rows.fnRuleDepthUptoRow.mapsOut==Tryz.pinned.checked.prog.mapsAmong Tryz.f7.resultTypes.toList)=true:=by kernel_rfl
theorem j16:(Rows.fnRuleDepthUptoRow.loops==(Tryz.f7.params.toList++(Rows.OpenSpec.upto Rows.fnRuleDepthSpec).bare.plain.varTypes Tryz.pinned.checked.prog).any (Tryz.pinned.checked.prog.loopsFrom ·))=true:=by kernel_rfl
theorem j17:(Rows.fnRuleDepthUptoRow.wideKeys==(Tryz.f7.params.toList++(Rows.OpenSpec.upto Rows.fnRuleDepthSpec).bare.plain.varTypes Tryz.pinned.checked.prog++Tryz.f7.resultTypes.toList).any (Tryz.pinned.checked.prog.wideKeysFrom ·))=true:=by kernel_rfl
theorem j18:((Rows.OpenSpec.upto Rows.fnRuleDepthSpec).bare.vars.all (Tryz.pinned.checked.prog.varReadable ·))=true:=by kernel_rfl
theorem j19:(Tryz.f7.resultTypes.all (fun t=>Tryz.pinned.checked.prog.readableRec t&&decide (t<Tryz.pinned.checked.prog.types.size)))=true:=by kernel_rfl
theorem j20:(Rows.fnRuleDepthUptoRow.ifacesOut==Tryz.f7.resultTypes.toList.any (Tryz.pinned.checked.prog.ifacesRec ·))=true:=by kernel_rfl
theorem j21:(Rows.fnRuleDepthUptoRow.loopsOut==Tryz.f7.resultTypes.toList.any (Tryz.pinned.checked.prog.loopsFrom ·))=true:=by kernel_rfl
theorem j22:(Rows.fnRuleDepthUptoRow.plainKeys==Tryz.pinned.checked.prog.plainKeys)=true:=by kernel_rfl
theorem j23:(Rows.fnRuleDepthUptoRow.shortTexts.isNone)=true:=by kernel_rfl
theorem j24:(Tryz.pinned.checked.prog.stopsHeard)=true:=g24
theorem j25:(Tryz.pinned.checked.prog.mayEnter)=true:=g25
theorem j26:(Rows.fnRuleDepthUptoRow.lifted==Tryz.pinned.checked.prog.liftsFinal)=true:=by kernel_rfl
theorem j27:(Tryz.pinned.checked.prog.make==some Rows.fnRuleDepthUptoRow.make)=true:=by kernel_rfl
theorem j28:Rows.fnRuleDepthUptoRow.domain.isEmpty=true:=rfl
theorem k28:Rows.fnRuleDepthUptoRow.kinds=[]:=rfl
theorem j29:(Rows.fnRuleDepthUptoRow.pinned==Rows.fnRuleDepthUptoRow.pinnedBy)=true:=by kernel_rfl
theorem j30:(Rows.fnRuleDepthUptoRow.veiled==(Tryz.f7.params.toList++(Rows.OpenSpec.upto Rows.fnRuleDepthSpec).bare.plain.varTypes Tryz.pinned.checked.prog++Tryz.f7.resultTypes.toList).any (Tryz.pinned.checked.prog.veiledRec ·))=true:=by kernel_rfl
theorem j31:(Rows.fnRuleDepthUptoRow.veiledFits Tryz.pinned.checked.prog Tryz.f7.params.toList (Tryz.f7.params.toList++(Rows.OpenSpec.upto Rows.fnRuleDepthSpec).bare.plain.varTypes Tryz.pinned.checked.prog++Tryz.f7.resultTypes.toList))=true:=by kernel_rfl
theorem n_p:joinedFacts Tryz.pinned.checked.prog 7 Tryz.f7 (Rows.OpenSpec.upto Rows.fnRuleDepthSpec).bare Rows.fnRuleDepthUptoRow=true:=
 m_p j0 j1 j2 j3 j4 j5 j6 j7 j8 j9 j10 j11 j12 j13 j14 j15 j16 j17 j18 j19 j20 j21 j22 j23 j24 j25 j26 j27 j28 k28 j29 j30 j31
theorem o_i:Tryz.pinned.checked.prog.funcNamed Rows.fnRuleDepthUptoRow.func=some 7:=by kernel_rfl
theorem o_V:Tryz.f7.isInstance Tryz.pinned.checked.prog Rows.fnRuleDepthUptoRow.origin Rows.fnRuleDepthUptoRow.targs:=odt (by kernel_rfl)
theorem p_e:Tryz.f7.isWrapper Tryz.pinned.checked.prog Rows.fnRuleDepthUptoRow.wrapper Rows.fnRuleDepthUptoRow.mainSum:=by unfold Func.isWrapper;first|(rw [if_pos (by decide +kernel)];kernel_rfl)|(rw [if_neg (by decide +kernel)];exact ⟨rfl,rfl⟩)
end Go.Proofs.YtmnhdjhlcgfpkaaGreat.fnRuleDepth
