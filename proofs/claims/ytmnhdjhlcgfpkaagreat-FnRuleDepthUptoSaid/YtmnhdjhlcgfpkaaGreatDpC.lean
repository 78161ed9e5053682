/- The law FnRuleDepth: in a document whose fragments are known and do not reach themselves, three lists of types, one within the other, are told, and nothing else. Proved where what the arguments hold is of bulk at most 1048576. -/
import Derived.Test.YtmnhdjhlcgfpkaaGreatReadB
import Derived.Test.YtmnhdjhlcgfpkaaGreatDpB
import Derived.Test.YtmnhdjhlcgfpkaaGreatDpA
set_option linter.unusedVariables false
namespace Go.Proofs.YtmnhdjhlcgfpkaaGreat.fnRuleDepth
open Go Go.VC Go.ChangeShapes Go.WideShapes Go.ChangeAt Go.RowKit
set_option maxRecDepth 100000 in
theorem lifted (os:Os)(started:os.Started)(H:Type)(enc:TypeId × Value->H)(F:Stop.Interp):
  ReturnsInHanded {} Tryz.checked os 7 .any ((Rows.OpenSpec.upto Rows.fnRuleDepthSpec).pre6 enc Tryz.prog Tryz.f7 Rows.fnRuleDepthUptoRow.domain false) (((Rows.OpenSpec.upto Rows.fnRuleDepthSpec).at F).post enc Tryz.prog Tryz.f7 false true false false):=by
 refine returnsInHanded_of_cond (C:=Tryz.checked) (s:=Rows.OpenSpec.upto Rows.fnRuleDepthSpec) (k:=Rows.uptoSmall) rfl own started (by kernel_rfl) Tryz.func7
  (OpenSpec.witness (enc:=enc) (C:=Tryz.checked) (s:=Rows.OpenSpec.upto Rows.fnRuleDepthSpec) (k:=Rows.uptoSmall) rfl false ⟨#[],#[.agg #[.slice none 0 0,.slice none 0 0]],[]⟩ 8 (by kernel_rfl) (by kernel_rfl) (by kernel_rfl)
   (x:=([.agg [.nil,.nil]],[],[])) (by kernel_rfl) rfl (by kernel_rfl)) ?_
 intro W base args ds gs before hval hW _ hk _;exact o_g (f:=7) w_g (fn:=Tryz.f7) (by kernel_rfl) (by kernel_rfl) (s:=Rows.fnRuleDepthSpec) rfl (fun _ _=>rfl) H enc W base args ds gs before hval hW hk
theorem proved:Rows.FnRuleDepthUptoSaid:=
 OpenClaim.holds_of_cond 7 Tryz.f7 rfl rfl rfl rfl rfl rfl rfl ⟨rfl,rfl,rfl,rfl,rfl⟩ rfl rfl rfl rfl rfl o_i Tryz.func7 n_p o_V p_e
  (fun os started H enc _ F=>lifted os started H enc F)
end Go.Proofs.YtmnhdjhlcgfpkaaGreat.fnRuleDepth
