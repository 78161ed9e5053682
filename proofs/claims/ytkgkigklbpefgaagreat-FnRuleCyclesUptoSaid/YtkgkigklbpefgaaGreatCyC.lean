/- The law FnRuleCycles: in a document whose fragments have names apart, a fragment that reaches itself is told, and nothing else. Proved where what the arguments hold is of bulk at most 1048576. -/
import Derived.Test.YtkgkigklbpefgaaGreatReadB
import Derived.Test.YtkgkigklbpefgaaGreatCyB
import Derived.Test.YtkgkigklbpefgaaGreatCyA
set_option linter.unusedVariables false
namespace Go.Proofs.YtkgkigklbpefgaaGreat.fnRuleCycles
open Go Go.VC Go.ChangeShapes Go.WideShapes Go.ChangeAt Go.RowKit
set_option maxRecDepth 100000 in
theorem lifted (os:Os)(started:os.Started)(H:Type)(enc:TypeId × Value->H)(F:Stop.Interp):
  ReturnsInHanded {} Tryz.checked os 8 .any ((Rows.OpenSpec.upto Rows.fnRuleCyclesSpec).pre6 enc Tryz.prog Tryz.f8 Rows.fnRuleCyclesUptoRow.domain false) (((Rows.OpenSpec.upto Rows.fnRuleCyclesSpec).at F).post enc Tryz.prog Tryz.f8 false true false false):=by
 refine returnsInHanded_of_cond (C:=Tryz.checked) (s:=Rows.OpenSpec.upto Rows.fnRuleCyclesSpec) (k:=Rows.uptoSmall) rfl own started (by kernel_rfl) Tryz.func8
  (OpenSpec.witness (enc:=enc) (C:=Tryz.checked) (s:=Rows.OpenSpec.upto Rows.fnRuleCyclesSpec) (k:=Rows.uptoSmall) rfl false ⟨#[],#[.agg #[.slice none 0 0,.slice none 0 0,.slice none 0 0,.slice none 0 0,.slice none 0 0],.agg #[.slice none 0 0,.slice none 0 0]],[]⟩ 8 (by kernel_rfl) (by kernel_rfl) (by kernel_rfl)
   (x:=([.agg [.nil,.nil,.nil,.nil,.nil],.agg [.nil,.nil]],[],[])) (by kernel_rfl) rfl (by kernel_rfl)) ?_
 intro W base args ds gs before hval hW _ hk _;exact o_g (f:=8) t_I (fn:=Tryz.f8) (by kernel_rfl) (by kernel_rfl) (s:=Rows.fnRuleCyclesSpec) rfl (fun _ _ _=>rfl) H enc W base args ds gs before hval hW hk
theorem proved:Rows.FnRuleCyclesUptoSaid:=
 OpenClaim.holds_of_cond 8 Tryz.f8 rfl rfl rfl rfl rfl rfl rfl ⟨rfl,rfl,rfl,rfl,rfl⟩ rfl rfl rfl rfl rfl o_i Tryz.func8 n_p o_V p_e
  (fun os started H enc _ F=>lifted os started H enc F)
end Go.Proofs.YtkgkigklbpefgaaGreat.fnRuleCycles
