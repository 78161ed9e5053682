/-
  NARROWER THAN 'FOR EVERY INPUT', by the rows' own cells (each row's printed sentence says how): FnRuleRoots: loops · FnRuleInputs: loops · FnRuleComposite: loops · FnRuleTypes: loops · FnRuleArgs: loops · FnRuleKeys: loops.
  DERIVED. THE GIVEN ROWS OF THIS SEAT. 6 by the template 'for every input the law returns true; each argument reads behind the call as it read before'; 0 by the template 'total and deterministic' (their statements: YtcfdmdgahpikeaaGreatTotals.lean).
  GIVEN WITH THE SEED: the statements are not yours to turn. If you find one false, say at which input.
  Laid BY PROGRAM, IN A SANDBOX (cutbox-rows.mjs): the forced cells as the released guide's own fill.sh prints them over the translation fa0bba1065a2ced8… (all of the seat's roots in one cut). By AI agents, Wed Nov 11 2026. No macro, syntax, notation, axiom, sorry.
-/
import Derived.Test.YtcfdmdgahpikeaaGreatChecked
import GoSem.Claim
import GoSem.ClaimJoined
import GoSem.ClaimMapViews
import Derived.JoinedTies
import Derived.KernelRfl
namespace Go.Proofs.YtcfdmdgahpikeaaGreat
/- THE CELL 'sum', in the pinned program and in every row, IS THE sha256 OF THE DUMP (.gsa) THAT YtcfdmdgahpikeaaGreatProg.lean LOADS. Nothing in Lean hashes anything: it is a label: what it is worth is what the hold of that sum in a sandbox is worth. -/
noncomputable def Tryz.pinned : Pinned := { name := "ytcfdmdgahpikeaagreat", sum := "fa0bba1065a2ced86df83d17ff96eb07c094ca32446042b788b92bb4f2cb7cc5", checked := Tryz.checked }
namespace Rows
def none {H : Type} : Left H := { results := [], args := [] }

/-- 'laws.FnRuleRoots': WHATEVER THE INPUT: true; the input reads as it did. -/
def fnRuleRootsSpec : ChangeSpec := { name := "fnRuleRoots", fn := fun _ => fun
  | [d1, d2] => { results := [.lit (.bool true)], args := [d1, d2] }
  | _ => none }
def fnRuleRootsRow : OpenClaim := { program := "ytcfdmdgahpikeaagreat", sum := "fa0bba1065a2ced86df83d17ff96eb07c094ca32446042b788b92bb4f2cb7cc5", func := "given.example/pub-querent/laws.FnRuleRoots", spec := "fnRuleRoots", unfollowed := true, recurses := true, loops := true, apart := false }
def FnRuleRootsSaid : Prop := fnRuleRootsRow.holds Tryz.pinned (OpenSpec.ofChange fnRuleRootsSpec)

/-- ITS FALSE NEIGHBOUR: 'it returns false'. Refute it at one input. -/
def fnRuleRootsWrong : ChangeSpec := { name := "fnRuleRoots", fn := fun _ => fun
  | [d1, d2] => { results := [.lit (.bool false)], args := [d1, d2] }
  | _ => none }
def FnRuleRootsWrongFalsely : Prop := fnRuleRootsRow.holds Tryz.pinned (OpenSpec.ofChange fnRuleRootsWrong)

/-- 'laws.FnRuleInputs': WHATEVER THE INPUT: true; the input reads as it did. -/
def fnRuleInputsSpec : ChangeSpec := { name := "fnRuleInputs", fn := fun _ => fun
  | [d1, d2] => { results := [.lit (.bool true)], args := [d1, d2] }
  | _ => none }
def fnRuleInputsRow : OpenClaim := { program := "ytcfdmdgahpikeaagreat", sum := "fa0bba1065a2ced86df83d17ff96eb07c094ca32446042b788b92bb4f2cb7cc5", func := "given.example/pub-querent/laws.FnRuleInputs", spec := "fnRuleInputs", unfollowed := true, recurses := true, loops := true, apart := false }
def FnRuleInputsSaid : Prop := fnRuleInputsRow.holds Tryz.pinned (OpenSpec.ofChange fnRuleInputsSpec)

/-- ITS FALSE NEIGHBOUR: 'it returns false'. Refute it at one input. -/
def fnRuleInputsWrong : ChangeSpec := { name := "fnRuleInputs", fn := fun _ => fun
  | [d1, d2] => { results := [.lit (.bool false)], args := [d1, d2] }
  | _ => none }
def FnRuleInputsWrongFalsely : Prop := fnRuleInputsRow.holds Tryz.pinned (OpenSpec.ofChange fnRuleInputsWrong)

/-- 'laws.FnRuleComposite': WHATEVER THE INPUT: true; the input reads as it did. -/
def fnRuleCompositeSpec : ChangeSpec := { name := "fnRuleComposite", fn := fun _ => fun
  | [d1, d2] => { results := [.lit (.bool true)], args := [d1, d2] }
  | _ => none }
def fnRuleCompositeRow : OpenClaim := { program := "ytcfdmdgahpikeaagreat", sum := "fa0bba1065a2ced86df83d17ff96eb07c094ca32446042b788b92bb4f2cb7cc5", func := "given.example/pub-querent/laws.FnRuleComposite", spec := "fnRuleComposite", unfollowed := true, recurses := true, loops := true, apart := false }
def FnRuleCompositeSaid : Prop := fnRuleCompositeRow.holds Tryz.pinned (OpenSpec.ofChange fnRuleCompositeSpec)

/-- ITS FALSE NEIGHBOUR: 'it returns false'. Refute it at one input. -/
def fnRuleCompositeWrong : ChangeSpec := { name := "fnRuleComposite", fn := fun _ => fun
  | [d1, d2] => { results := [.lit (.bool false)], args := [d1, d2] }
  | _ => none }
def FnRuleCompositeWrongFalsely : Prop := fnRuleCompositeRow.holds Tryz.pinned (OpenSpec.ofChange fnRuleCompositeWrong)

/-- 'laws.FnRuleTypes': WHATEVER THE INPUT: true; the input reads as it did. -/
def fnRuleTypesSpec : ChangeSpec := { name := "fnRuleTypes", fn := fun _ => fun
  | [d1, d2] => { results := [.lit (.bool true)], args := [d1, d2] }
  | _ => none }
def fnRuleTypesRow : OpenClaim := { program := "ytcfdmdgahpikeaagreat", sum := "fa0bba1065a2ced86df83d17ff96eb07c094ca32446042b788b92bb4f2cb7cc5", func := "given.example/pub-querent/laws.FnRuleTypes", spec := "fnRuleTypes", unfollowed := true, recurses := true, loops := true, apart := false }
def FnRuleTypesSaid : Prop := fnRuleTypesRow.holds Tryz.pinned (OpenSpec.ofChange fnRuleTypesSpec)

/-- ITS FALSE NEIGHBOUR: 'it returns false'. Refute it at one input. -/
def fnRuleTypesWrong : ChangeSpec := { name := "fnRuleTypes", fn := fun _ => fun
  | [d1, d2] => { results := [.lit (.bool false)], args := [d1, d2] }
  | _ => none }
def FnRuleTypesWrongFalsely : Prop := fnRuleTypesRow.holds Tryz.pinned (OpenSpec.ofChange fnRuleTypesWrong)

/-- 'laws.FnRuleArgs': WHATEVER THE INPUT: true; the input reads as it did. -/
def fnRuleArgsSpec : ChangeSpec := { name := "fnRuleArgs", fn := fun _ => fun
  | [d1, d2] => { results := [.lit (.bool true)], args := [d1, d2] }
  | _ => none }
def fnRuleArgsRow : OpenClaim := { program := "ytcfdmdgahpikeaagreat", sum := "fa0bba1065a2ced86df83d17ff96eb07c094ca32446042b788b92bb4f2cb7cc5", func := "given.example/pub-querent/laws.FnRuleArgs", spec := "fnRuleArgs", unfollowed := true, recurses := true, loops := true, apart := false }
def FnRuleArgsSaid : Prop := fnRuleArgsRow.holds Tryz.pinned (OpenSpec.ofChange fnRuleArgsSpec)

/-- ITS FALSE NEIGHBOUR: 'it returns false'. Refute it at one input. -/
def fnRuleArgsWrong : ChangeSpec := { name := "fnRuleArgs", fn := fun _ => fun
  | [d1, d2] => { results := [.lit (.bool false)], args := [d1, d2] }
  | _ => none }
def FnRuleArgsWrongFalsely : Prop := fnRuleArgsRow.holds Tryz.pinned (OpenSpec.ofChange fnRuleArgsWrong)

/-- 'laws.FnRuleKeys': WHATEVER THE INPUT: true; the input reads as it did. -/
def fnRuleKeysSpec : ChangeSpec := { name := "fnRuleKeys", fn := fun _ => fun
  | [d1, d2] => { results := [.lit (.bool true)], args := [d1, d2] }
  | _ => none }
def fnRuleKeysRow : OpenClaim := { program := "ytcfdmdgahpikeaagreat", sum := "fa0bba1065a2ced86df83d17ff96eb07c094ca32446042b788b92bb4f2cb7cc5", func := "given.example/pub-querent/laws.FnRuleKeys", spec := "fnRuleKeys", unfollowed := true, recurses := true, loops := true, apart := false }
def FnRuleKeysSaid : Prop := fnRuleKeysRow.holds Tryz.pinned (OpenSpec.ofChange fnRuleKeysSpec)

/-- ITS FALSE NEIGHBOUR: 'it returns false'. Refute it at one input. -/
def fnRuleKeysWrong : ChangeSpec := { name := "fnRuleKeys", fn := fun _ => fun
  | [d1, d2] => { results := [.lit (.bool false)], args := [d1, d2] }
  | _ => none }
def FnRuleKeysWrongFalsely : Prop := fnRuleKeysRow.holds Tryz.pinned (OpenSpec.ofChange fnRuleKeysWrong)

/- THE SECOND FORM. 'bulk': how many values and letters a reading holds, each counted each time it is reached (what is shared counts as often as it is met; a slice's spare places count too). A statement '..UptoSaid' is the law's where the arguments, and the package variables that the reading takes, are together of bulk at most 1048576: NARROWER than '..Said'. Prove '..Said' where nothing that the law and all that it calls make is longer than what came in: it says more and counts as full. Else prove '..UptoSaid'. A law counts once. -/
mutual
def uptoBulk {H : Type} : DataW H → Nat
  | .lit (.string bytes) => bytes.length + 1
  | .lit _ => 1
  | .nil => 1
  | .ptr d => uptoBulk d + 1
  | .slice elems spare => uptoBulkAll elems + uptoBulkAll spare + 1
  | .agg parts => uptoBulkAll parts + 1
  | .iface _ d => uptoBulk d + 1
  | .map entries => uptoBulkEntries entries + 1
  | .held _ => 1
def uptoBulkAll {H : Type} : List (DataW H) → Nat
  | [] => 0
  | d :: r => uptoBulk d + uptoBulkAll r
def uptoBulkEntries {H : Type} : List (Lit × DataW H) → Nat
  | [] => 0
  | x :: r => uptoBulkEntry x + uptoBulkEntries r
def uptoBulkEntry {H : Type} : Lit × DataW H → Nat
  | (.string bytes, d) => bytes.length + uptoBulk d + 1
  | (_, d) => uptoBulk d + 1
 end
def uptoSmall : (H : Type) → List (DataW H) → Bool := fun _ ds => decide (uptoBulkAll ds ≤ 1048576)
def OpenSpec.upto (s : _root_.Go.ChangeSpec) : _root_.Go.OpenSpec := { _root_.Go.OpenSpec.ofChange s with cond := some uptoSmall }

/-- 'laws.FnRuleRoots', WHERE WHAT IT READS IS OF BULK AT MOST 1048576: true; the input reads as it did. -/
def fnRuleRootsUptoRow : OpenClaim := { program := "ytcfdmdgahpikeaagreat", sum := "fa0bba1065a2ced86df83d17ff96eb07c094ca32446042b788b92bb4f2cb7cc5", func := "given.example/pub-querent/laws.FnRuleRoots", spec := "fnRuleRoots", unfollowed := true, recurses := true, loops := true, apart := false, narrowed := true }
def FnRuleRootsUptoSaid : Prop := fnRuleRootsUptoRow.holds Tryz.pinned (OpenSpec.upto fnRuleRootsSpec)

/-- 'laws.FnRuleInputs', WHERE WHAT IT READS IS OF BULK AT MOST 1048576: true; the input reads as it did. -/
def fnRuleInputsUptoRow : OpenClaim := { program := "ytcfdmdgahpikeaagreat", sum := "fa0bba1065a2ced86df83d17ff96eb07c094ca32446042b788b92bb4f2cb7cc5", func := "given.example/pub-querent/laws.FnRuleInputs", spec := "fnRuleInputs", unfollowed := true, recurses := true, loops := true, apart := false, narrowed := true }
def FnRuleInputsUptoSaid : Prop := fnRuleInputsUptoRow.holds Tryz.pinned (OpenSpec.upto fnRuleInputsSpec)

/-- 'laws.FnRuleComposite', WHERE WHAT IT READS IS OF BULK AT MOST 1048576: true; the input reads as it did. -/
def fnRuleCompositeUptoRow : OpenClaim := { program := "ytcfdmdgahpikeaagreat", sum := "fa0bba1065a2ced86df83d17ff96eb07c094ca32446042b788b92bb4f2cb7cc5", func := "given.example/pub-querent/laws.FnRuleComposite", spec := "fnRuleComposite", unfollowed := true, recurses := true, loops := true, apart := false, narrowed := true }
def FnRuleCompositeUptoSaid : Prop := fnRuleCompositeUptoRow.holds Tryz.pinned (OpenSpec.upto fnRuleCompositeSpec)

/-- 'laws.FnRuleTypes', WHERE WHAT IT READS IS OF BULK AT MOST 1048576: true; the input reads as it did. -/
def fnRuleTypesUptoRow : OpenClaim := { program := "ytcfdmdgahpikeaagreat", sum := "fa0bba1065a2ced86df83d17ff96eb07c094ca32446042b788b92bb4f2cb7cc5", func := "given.example/pub-querent/laws.FnRuleTypes", spec := "fnRuleTypes", unfollowed := true, recurses := true, loops := true, apart := false, narrowed := true }
def FnRuleTypesUptoSaid : Prop := fnRuleTypesUptoRow.holds Tryz.pinned (OpenSpec.upto fnRuleTypesSpec)

/-- 'laws.FnRuleArgs', WHERE WHAT IT READS IS OF BULK AT MOST 1048576: true; the input reads as it did. -/
def fnRuleArgsUptoRow : OpenClaim := { program := "ytcfdmdgahpikeaagreat", sum := "fa0bba1065a2ced86df83d17ff96eb07c094ca32446042b788b92bb4f2cb7cc5", func := "given.example/pub-querent/laws.FnRuleArgs", spec := "fnRuleArgs", unfollowed := true, recurses := true, loops := true, apart := false, narrowed := true }
def FnRuleArgsUptoSaid : Prop := fnRuleArgsUptoRow.holds Tryz.pinned (OpenSpec.upto fnRuleArgsSpec)

/-- 'laws.FnRuleKeys', WHERE WHAT IT READS IS OF BULK AT MOST 1048576: true; the input reads as it did. -/
def fnRuleKeysUptoRow : OpenClaim := { program := "ytcfdmdgahpikeaagreat", sum := "fa0bba1065a2ced86df83d17ff96eb07c094ca32446042b788b92bb4f2cb7cc5", func := "given.example/pub-querent/laws.FnRuleKeys", spec := "fnRuleKeys", unfollowed := true, recurses := true, loops := true, apart := false, narrowed := true }
def FnRuleKeysUptoSaid : Prop := fnRuleKeysUptoRow.holds Tryz.pinned (OpenSpec.upto fnRuleKeysSpec)

end Rows
end Go.Proofs.YtcfdmdgahpikeaaGreat
