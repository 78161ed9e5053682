/- The law FnRuleArgThere: in a sound document whose leaves are right, an argument that must be there and is not given is told, and nothing else. Proved where what the arguments hold is of bulk at most 1048576. -/
import Derived.Test.YtkgkigklbpefgaaGreatReadB
import Derived.Test.YtkgkigklbpefgaaGreatAtB
import Derived.Test.YtkgkigklbpefgaaGreatAtA
set_option linter.unusedVariables false
set_option linter.unusedSimpArgs false
set_option linter.unusedSectionVars false
set_option linter.deprecated false
namespace Go.Proofs.YtkgkigklbpefgaaGreat.fnRuleArgThere
open Go Go.VC Go.ChangeShapes Go.WideShapes Go.ChangeAt Go.RowKit
set_option maxRecDepth 100000 in
theorem lifted (os:Os)(started:os.Started)(H:Type)(enc:TypeId × Value->H)(F:Stop.Interp):
  ReturnsInHanded {} Tryz.checked os 10 .any ((Rows.OpenSpec.upto Rows.fnRuleArgThereSpec).pre6 enc Tryz.prog Tryz.f10 Rows.fnRuleArgThereUptoRow.domain false) (((Rows.OpenSpec.upto Rows.fnRuleArgThereSpec).at F).post enc Tryz.prog Tryz.f10 false true false false):=by
 refine returnsInHanded_of_cond (C:=Tryz.checked) (s:=Rows.OpenSpec.upto Rows.fnRuleArgThereSpec) (k:=Rows.uptoSmall) rfl own started (by kernel_rfl) Tryz.func10
  (OpenSpec.witness (enc:=enc) (C:=Tryz.checked) (s:=Rows.OpenSpec.upto Rows.fnRuleArgThereSpec) (k:=Rows.uptoSmall) rfl false ⟨#[],#[.agg #[.slice none 0 0,.slice none 0 0,.slice none 0 0,.slice none 0 0,.slice none 0 0],.agg #[.slice none 0 0,.slice none 0 0]],[]⟩ 8 (by kernel_rfl) (by kernel_rfl) (by kernel_rfl)
   (x:=([.agg [.nil,.nil,.nil,.nil,.nil],.agg [.nil,.nil]],[],[])) (by kernel_rfl) rfl (by kernel_rfl)) ?_
 intro W base args ds gs before hval hW _ hk _;exact o_g (f:=10) u_I (fn:=Tryz.f10) (by kernel_rfl) (by kernel_rfl) (s:=Rows.fnRuleArgThereSpec) rfl (fun _ _ _=>rfl) H enc W base args ds gs before hval hW hk
theorem proved:Rows.FnRuleArgThereUptoSaid:=
 OpenClaim.holds_of_cond 10 Tryz.f10 rfl rfl rfl rfl rfl rfl rfl ⟨rfl,rfl,rfl,rfl,rfl⟩ rfl rfl rfl rfl rfl o_i Tryz.func10 n_p o_V p_e
  (fun os started H enc _ F=>lifted os started H enc F)
end Go.Proofs.YtkgkigklbpefgaaGreat.fnRuleArgThere
