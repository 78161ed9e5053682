/- The law FnRuleKeys: two fields of one name in an object are told, and nothing else. Proved where what the arguments hold is of bulk at most 1048576. -/
import Derived.Test.YtcfdmdgahpikeaaGreatReadB
import Derived.Test.YtcfdmdgahpikeaaGreatKeysB
import Derived.Test.YtcfdmdgahpikeaaGreatKeysA
set_option linter.unusedVariables false
set_option linter.unusedSimpArgs false
set_option linter.unusedSectionVars false
set_option linter.deprecated false
namespace Go.Proofs.YtcfdmdgahpikeaaGreat.fnRuleKeys
open Go Go.VC Go.ChangeShapes Go.WideShapes Go.ChangeAt Go.RowKit
set_option maxRecDepth 100000 in
theorem lifted (os:Os)(started:os.Started)(H:Type)(enc:TypeId × Value->H)(F:Stop.Interp):
  ReturnsInHanded {} Tryz.checked os 8 .any ((Rows.OpenSpec.upto Rows.fnRuleKeysSpec).pre6 enc Tryz.prog Tryz.f8 Rows.fnRuleKeysUptoRow.domain false) (((Rows.OpenSpec.upto Rows.fnRuleKeysSpec).at F).post enc Tryz.prog Tryz.f8 false true false false):=by
 refine returnsInHanded_of_cond (C:=Tryz.checked) (s:=Rows.OpenSpec.upto Rows.fnRuleKeysSpec) (k:=Rows.uptoSmall) rfl own started (by kernel_rfl) Tryz.func8
  (OpenSpec.witness (enc:=enc) (C:=Tryz.checked) (s:=Rows.OpenSpec.upto Rows.fnRuleKeysSpec) (k:=Rows.uptoSmall) rfl false ⟨#[],#[.agg #[.slice none 0 0,.slice none 0 0,.slice none 0 0,.slice none 0 0,.slice none 0 0],.agg #[.slice none 0 0,.slice none 0 0]],[]⟩ 8 (by kernel_rfl) (by kernel_rfl) (by kernel_rfl)
   (x:=([.agg [.nil,.nil,.nil,.nil,.nil],.agg [.nil,.nil]],[],[])) (by kernel_rfl) rfl (by kernel_rfl)) ?_
 intro W base args ds gs before hval hW _ hk _
 exact law_row (f:=8) c_FnRuleKeys (fn:=Tryz.f8) (by kernel_rfl) (by kernel_rfl) (s:=Rows.fnRuleKeysSpec) rfl (fun _ _ _=>rfl) H enc W base args ds gs before hval hW hk
theorem proved:Rows.FnRuleKeysUptoSaid:=
 OpenClaim.holds_of_cond 8 Tryz.f8 rfl rfl rfl rfl rfl rfl rfl ⟨rfl,rfl,rfl,rfl,rfl⟩ rfl rfl rfl rfl rfl named_f Tryz.func8 closed_f inst_f wrap_f
  (fun os started H enc _ F=>lifted os started H enc F)
end Go.Proofs.YtcfdmdgahpikeaaGreat.fnRuleKeys
