/- The law FnRuleFragUsed: in a sound document, a fragment that no operation reaches is told, and nothing else. Proved where what the arguments hold is of bulk at most 1048576. -/
import Derived.Test.YtimdonbcgiakgaaGreatReadB
import Derived.Test.YtimdonbcgiakgaaGreatUnB
import Derived.Test.YtimdonbcgiakgaaGreatUnA
set_option linter.unusedVariables false
namespace Go.Proofs.YtimdonbcgiakgaaGreat.fnRuleFragUsed
open Go Go.VC Go.ChangeShapes Go.WideShapes Go.ChangeAt Go.RowKit
set_option maxRecDepth 100000 in
theorem lifted (os:Os)(started:os.Started)(H:Type)(enc:TypeId × Value->H)(F:Stop.Interp):
  ReturnsInHanded {} Tryz.checked os 3 .any ((Rows.OpenSpec.upto Rows.fnRuleFragUsedSpec).pre6 enc Tryz.prog Tryz.f3 Rows.fnRuleFragUsedUptoRow.domain false) (((Rows.OpenSpec.upto Rows.fnRuleFragUsedSpec).at F).post enc Tryz.prog Tryz.f3 false true false false):=by
 refine returnsInHanded_of_cond (C:=Tryz.checked) (s:=Rows.OpenSpec.upto Rows.fnRuleFragUsedSpec) (k:=Rows.uptoSmall) rfl own started (by kernel_rfl) Tryz.func3
  (OpenSpec.witness (enc:=enc) (C:=Tryz.checked) (s:=Rows.OpenSpec.upto Rows.fnRuleFragUsedSpec) (k:=Rows.uptoSmall) rfl false ⟨#[],#[.agg #[.slice none 0 0,.slice none 0 0,.slice none 0 0,.slice none 0 0,.slice none 0 0],.agg #[.slice none 0 0,.slice none 0 0]],[]⟩ 8 (by kernel_rfl) (by kernel_rfl) (by kernel_rfl)
   (x:=([.agg [.nil,.nil,.nil,.nil,.nil],.agg [.nil,.nil]],[],[])) (by kernel_rfl) rfl (by kernel_rfl)) ?_
 intro W base args ds gs before hval hW _ hk _
 exact law_row (f:=3) c_FnRuleFragUsed (fn:=Tryz.f3) (by kernel_rfl) (by kernel_rfl) (s:=Rows.fnRuleFragUsedSpec) rfl (fun _ _ _=>rfl) H enc W base args ds gs before hval hW hk
theorem proved:Rows.FnRuleFragUsedUptoSaid:=
 OpenClaim.holds_of_cond 3 Tryz.f3 rfl rfl rfl rfl rfl rfl rfl ⟨rfl,rfl,rfl,rfl,rfl⟩ rfl rfl rfl rfl rfl named_f Tryz.func3 closed_f inst_f wrap_f
  (fun os started H enc _ F=>lifted os started H enc F)
end Go.Proofs.YtimdonbcgiakgaaGreat.fnRuleFragUsed
