/- The law FnRuleVarUsed: in a sound document whose variables have names apart, a variable that is defined and not used, by whatever fragments, is told, and nothing else. Proved where what the arguments hold is of bulk at most 1048576. -/
import Derived.Test.YtkgkigklbpefgaaGreatReadB
import Derived.Test.YtkgkigklbpefgaaGreatVuB
import Derived.Test.YtkgkigklbpefgaaGreatVuA
set_option linter.unusedVariables false
namespace Go.Proofs.YtkgkigklbpefgaaGreat.fnRuleVarUsed
open Go Go.VC Go.ChangeShapes Go.WideShapes Go.ChangeAt Go.RowKit
set_option maxRecDepth 100000 in
theorem lifted (os:Os)(started:os.Started)(H:Type)(enc:TypeId × Value->H)(F:Stop.Interp):
  ReturnsInHanded {} Tryz.checked os 7 .any ((Rows.OpenSpec.upto Rows.fnRuleVarUsedSpec).pre6 enc Tryz.prog Tryz.f7 Rows.fnRuleVarUsedUptoRow.domain false) (((Rows.OpenSpec.upto Rows.fnRuleVarUsedSpec).at F).post enc Tryz.prog Tryz.f7 false true false false):=by
 refine returnsInHanded_of_cond (C:=Tryz.checked) (s:=Rows.OpenSpec.upto Rows.fnRuleVarUsedSpec) (k:=Rows.uptoSmall) rfl own started (by kernel_rfl) Tryz.func7
  (OpenSpec.witness (enc:=enc) (C:=Tryz.checked) (s:=Rows.OpenSpec.upto Rows.fnRuleVarUsedSpec) (k:=Rows.uptoSmall) rfl false ⟨#[],#[.agg #[.slice none 0 0,.slice none 0 0,.slice none 0 0,.slice none 0 0,.slice none 0 0],.agg #[.slice none 0 0,.slice none 0 0]],[]⟩ 8 (by kernel_rfl) (by kernel_rfl) (by kernel_rfl)
   (x:=([.agg [.nil,.nil,.nil,.nil,.nil],.agg [.nil,.nil]],[],[])) (by kernel_rfl) rfl (by kernel_rfl)) ?_
 intro W base args ds gs before hval hW _ hk _;exact o_g (f:=7) u_i (fn:=Tryz.f7) (by kernel_rfl) (by kernel_rfl) (s:=Rows.fnRuleVarUsedSpec) rfl (fun _ _ _=>rfl) H enc W base args ds gs before hval hW hk
theorem proved:Rows.FnRuleVarUsedUptoSaid:=
 OpenClaim.holds_of_cond 7 Tryz.f7 rfl rfl rfl rfl rfl rfl rfl ⟨rfl,rfl,rfl,rfl,rfl⟩ rfl rfl rfl rfl rfl o_i Tryz.func7 n_p o_V p_e
  (fun os started H enc _ F=>lifted os started H enc F)
end Go.Proofs.YtkgkigklbpefgaaGreat.fnRuleVarUsed
