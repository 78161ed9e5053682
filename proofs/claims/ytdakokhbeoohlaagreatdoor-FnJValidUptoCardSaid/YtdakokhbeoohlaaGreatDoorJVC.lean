/- The law FnJValid: which values a schema takes. Proved where what the arguments hold is of bulk at most 1048576. -/
import Derived.Test.YtdakokhbeoohlaaGreatDoorJpH
import Derived.Test.YtdakokhbeoohlaaGreatDoorJVB
import Derived.Test.YtdakokhbeoohlaaGreatDoorJVA
import Derived.Test.YtdakokhbeoohlaaGreatDoorCards
import Derived.Test.YtdakokhbeoohlaaGreatDoorTie
set_option linter.unusedVariables false
namespace Go.Proofs.YtdakokhbeoohlaaGreatDoor.fnJValid
open Go Go.VC Go.ChangeShapes Go.WideShapes Go.ChangeAt Go.RowKit
theorem D_p (os:Os):laidMet Tryz.prog Rows.fnJValidUptoRow.laid ((laidWorld os).forCall (fun _ _=>0) ⟨#[],#[.slice none 0 0,.agg #[.int .i64 0,.bool false,.int .i64 0,.string ⟨#[]⟩,.slice none 0 0,.slice none 0 0]],[]⟩).memory:=
 laidMet_of_run' 80 (by kernel_rfl) (by kernel_rfl)
theorem reads (os:Os){H:Type}(enc:TypeId × Value->H):∃ places,DataW.whole enc Tryz.prog ((laidWorld os).forCall (fun _ _=>0) ⟨#[],#[.slice none 0 0,.agg #[.int .i64 0,.bool false,.int .i64 0,.string ⟨#[]⟩,.slice none 0 0,.slice none 0 0]],[]⟩).memory Tryz.f3.params.toList Rows.fnJValidSpec.vars false (#[.slice none 0 0,.agg #[.int .i64 0,.bool false,.int .i64 0,.string ⟨#[]⟩,.slice none 0 0,.slice none 0 0]]:Array Value).toList 8=some ([.nil,.agg [.lit (.int .i64 0),.lit (.bool false),.lit (.int .i64 0),.lit (.string []),.nil,.nil]],[],places):=
 ⟨[],by kernel_rfl⟩
set_option maxRecDepth 100000 in
theorem lifted (os:Os)(started:os.Started)(H:Type)(enc:TypeId × Value->H)(F:Stop.Interp):
  ReturnsInHanded {} Tryz.checked os 3 .any ((Rows.OpenSpec.upto Rows.fnJValidSpec).preRow enc Tryz.prog Tryz.f3 Rows.fnJValidUptoRow.domain false Rows.fnJValidUptoRow.laid) (((Rows.OpenSpec.upto Rows.fnJValidSpec).at F).post enc Tryz.prog Tryz.f3 false true false false):=by
 obtain ⟨places,hx⟩:=reads os enc;refine returnsInHanded_of_row (C:=Tryz.checked) (s:=Rows.OpenSpec.upto Rows.fnJValidSpec) own started (by kernel_rfl) Tryz.func3
  (witness_row_at (enc:=enc) (C:=Tryz.checked) false (laidWorld os) #[.slice none 0 0,.agg #[.int .i64 0,.bool false,.int .i64 0,.string ⟨#[]⟩,.slice none 0 0,.slice none 0 0]] rfl (by kernel_rfl) (by kernel_rfl) (by kernel_rfl)
   (OpenSpec.preRow_of_cond 8 hx (by kernel_rfl) (fun k hk=>by cases hk;kernel_rfl) (by kernel_rfl) (D_p os))) ?_
 intro W base args ds gs before hval hW _ hcond _ hL _ _;exact E_B (f:=3) B_R (fn:=Tryz.f3) (by kernel_rfl) (by kernel_rfl) (s:=Rows.fnJValidSpec) rfl (fun _ _ _=>rfl) H enc W base args ds gs before hval hW (hcond _ rfl) hL
theorem upto:Rows.FnJValidUptoSaid:=
 OpenClaim.holds_of_cond 3 Tryz.f3 rfl rfl rfl rfl rfl rfl rfl ⟨rfl,rfl,rfl,rfl,rfl⟩ rfl rfl rfl rfl rfl o_i Tryz.func3 n_p o_V p_e
  (fun os started H enc _ F=>by rw [OpenClaim.pre_eq_preRow];exact lifted os started H enc F)
theorem plain (f:FuncId)(fn:Func)(hf:Tryz.pinned.checked.prog.funcNamed "given.example/pub-querent/laws.FnJValid" =some f)(hfn:Tryz.pinned.checked.prog.funcs[f]? =some fn):
  true=Tryz.pinned.checked.prog.looks []/\∀ (j:Nat) t,fn.params[j]? =some t->Tryz.pinned.checked.prog.wantsStandIn t=false:=by
 obtain rfl:f=3:=Option.some.inj ((show Tryz.prog.funcNamed "given.example/pub-querent/laws.FnJValid" =some 3 by kernel_rfl).symm.trans hf) |>.symm;obtain rfl:fn=Tryz.f3:=(Option.some.inj (Tryz.func3.symm.trans hfn)).symm;refine ⟨by kernel_rfl,fun j t ht=>?_⟩;have hp:Tryz.f3.params=#[23,27]:=by kernel_rfl
 rw [hp] at ht;have hm:=Array.mem_of_getElem? ht;have hall:(#[23,27]:Array TypeId).all (fun t=>Tryz.prog.wantsStandIn t==false)=true:=by kernel_rfl
 have:=Array.all_eq_true'.1 hall t hm;have h2:Tryz.prog.wantsStandIn t=false:=by simpa using this
 exact h2
theorem proved:Rows.FnJValidUptoCardSaid:=
 Claim7.holds_tied_plain_at .later [] _ _ _ _ upto (fun _ h=>by cases h) (by kernel_rfl) (fun _ h=>by cases h) fnJValidUpto_row_tie rfl ⟨rfl,rfl⟩ (by kernel_rfl) rfl plain (by kernel_rfl)
end Go.Proofs.YtdakokhbeoohlaaGreatDoor.fnJValid
