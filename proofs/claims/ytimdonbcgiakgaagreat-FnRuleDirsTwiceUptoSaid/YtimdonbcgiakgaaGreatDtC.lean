/- The law FnRuleDirsTwice: in a sound document whose directives are all known, a directive that may stand once and stands twice in one place is told, and nothing else. Proved where what the arguments hold is of bulk at most 1048576. -/
import Derived.Test.YtimdonbcgiakgaaGreatReadB
import Derived.Test.YtimdonbcgiakgaaGreatDtB
import Derived.Test.YtimdonbcgiakgaaGreatDtA
set_option linter.unusedVariables false
set_option linter.unusedSimpArgs false
set_option linter.unusedSectionVars false
set_option linter.deprecated false
namespace Go.Proofs.YtimdonbcgiakgaaGreat.fnRuleDirsTwice
open Go Go.VC Go.ChangeShapes Go.WideShapes Go.ChangeAt Go.RowKit
set_option maxRecDepth 100000 in
theorem lifted (os:Os)(started:os.Started)(H:Type)(enc:TypeId × Value->H)(F:Stop.Interp):
  ReturnsInHanded {} Tryz.checked os 8 .any ((Rows.OpenSpec.upto Rows.fnRuleDirsTwiceSpec).pre6 enc Tryz.prog Tryz.f8 Rows.fnRuleDirsTwiceUptoRow.domain false) (((Rows.OpenSpec.upto Rows.fnRuleDirsTwiceSpec).at F).post enc Tryz.prog Tryz.f8 false true false false):=by
 refine returnsInHanded_of_cond (C:=Tryz.checked) (s:=Rows.OpenSpec.upto Rows.fnRuleDirsTwiceSpec) (k:=Rows.uptoSmall) rfl own started (by kernel_rfl) Tryz.func8
  (OpenSpec.witness (enc:=enc) (C:=Tryz.checked) (s:=Rows.OpenSpec.upto Rows.fnRuleDirsTwiceSpec) (k:=Rows.uptoSmall) rfl false ⟨#[],#[.agg #[.slice none 0 0,.slice none 0 0,.slice none 0 0,.slice none 0 0,.slice none 0 0],.agg #[.slice none 0 0,.slice none 0 0]],[]⟩ 8 (by kernel_rfl) (by kernel_rfl) (by kernel_rfl)
   (x:=([.agg [.nil,.nil,.nil,.nil,.nil],.agg [.nil,.nil]],[],[])) (by kernel_rfl) rfl (by kernel_rfl)) ?_
 intro W base args ds gs before hval hW _ hk _
 exact law_row (f:=8) c_FnRuleDirsTwice (fn:=Tryz.f8) (by kernel_rfl) (by kernel_rfl) (s:=Rows.fnRuleDirsTwiceSpec) rfl (fun _ _ _=>rfl) H enc W base args ds gs before hval hW hk
theorem proved:Rows.FnRuleDirsTwiceUptoSaid:=
 OpenClaim.holds_of_cond 8 Tryz.f8 rfl rfl rfl rfl rfl rfl rfl ⟨rfl,rfl,rfl,rfl,rfl⟩ rfl rfl rfl rfl rfl named_f Tryz.func8 closed_f inst_f wrap_f
  (fun os started H enc _ F=>lifted os started H enc F)
end Go.Proofs.YtimdonbcgiakgaaGreat.fnRuleDirsTwice
