/-
  NARROWER THAN 'FOR EVERY INPUT', by the rows' own cells (each row's printed sentence says how): FnRuleSubs: loops · FnRulePlaces: loops · FnNotes: loops · FnWanted: loops · FnRuleDepth: loops.
  DERIVED. THE GIVEN ROWS OF THIS SEAT. 5 by the template 'for every input the law returns true; each argument reads behind the call as it read before'; 0 by the template 'total and deterministic' (their statements: YtmnhdjhlcgfpkaaGreatTotals.lean).
  GIVEN WITH THE SEED: the statements are not yours to turn. If you find one false, say at which input.
  Laid BY PROGRAM, IN A SANDBOX (cutbox-rows.mjs): the forced cells as the released guide's own fill.sh prints them over the translation ccfe82256f01e98d… (all of the seat's roots in one cut). By AI agents, Wed Nov 11 2026. No macro, syntax, notation, axiom, sorry.
-/
import Derived.Test.YtmnhdjhlcgfpkaaGreatChecked
import GoSem.Claim
import GoSem.ClaimJoined
import GoSem.ClaimMapViews
import Derived.JoinedTies
import Derived.KernelRfl
namespace Go.Proofs.YtmnhdjhlcgfpkaaGreat
/- THE CELL 'sum', in the pinned program and in every row, IS THE sha256 OF THE DUMP (.gsa) THAT YtmnhdjhlcgfpkaaGreatProg.lean LOADS. Nothing in Lean hashes anything: it is a label: what it is worth is what the hold of that sum in a sandbox is worth. -/
noncomputable def Tryz.pinned : Pinned := { name := "ytmnhdjhlcgfpkaagreat", sum := "ccfe82256f01e98d6dfa64bca50ec7e17a046a9d686405d651de972b1ca0bd2e", checked := Tryz.checked }
namespace Rows
def none {H : Type} : Left H := { results := [], args := [] }

/-- 'laws.FnRuleSubs': WHATEVER THE INPUT: true; the input reads as it did. -/
def fnRuleSubsSpec : ChangeSpec := { name := "fnRuleSubs", fn := fun _ => fun
  | [d1, d2] => { results := [.lit (.bool true)], args := [d1, d2] }
  | _ => none }
def fnRuleSubsRow : OpenClaim := { program := "ytmnhdjhlcgfpkaagreat", sum := "ccfe82256f01e98d6dfa64bca50ec7e17a046a9d686405d651de972b1ca0bd2e", func := "given.example/pub-querent/laws.FnRuleSubs", spec := "fnRuleSubs", unfollowed := true, recurses := true, loops := true, plainKeys := false, apart := false }
def FnRuleSubsSaid : Prop := fnRuleSubsRow.holds Tryz.pinned (OpenSpec.ofChange fnRuleSubsSpec)

/-- ITS FALSE NEIGHBOUR: 'it returns false'. Refute it at one input. -/
def fnRuleSubsWrong : ChangeSpec := { name := "fnRuleSubs", fn := fun _ => fun
  | [d1, d2] => { results := [.lit (.bool false)], args := [d1, d2] }
  | _ => none }
def FnRuleSubsWrongFalsely : Prop := fnRuleSubsRow.holds Tryz.pinned (OpenSpec.ofChange fnRuleSubsWrong)

/-- 'laws.FnRulePlaces': WHATEVER THE INPUT: true; the input reads as it did. -/
def fnRulePlacesSpec : ChangeSpec := { name := "fnRulePlaces", fn := fun _ => fun
  | [d1, d2] => { results := [.lit (.bool true)], args := [d1, d2] }
  | _ => none }
def fnRulePlacesRow : OpenClaim := { program := "ytmnhdjhlcgfpkaagreat", sum := "ccfe82256f01e98d6dfa64bca50ec7e17a046a9d686405d651de972b1ca0bd2e", func := "given.example/pub-querent/laws.FnRulePlaces", spec := "fnRulePlaces", unfollowed := true, recurses := true, loops := true, plainKeys := false, apart := false }
def FnRulePlacesSaid : Prop := fnRulePlacesRow.holds Tryz.pinned (OpenSpec.ofChange fnRulePlacesSpec)

/-- ITS FALSE NEIGHBOUR: 'it returns false'. Refute it at one input. -/
def fnRulePlacesWrong : ChangeSpec := { name := "fnRulePlaces", fn := fun _ => fun
  | [d1, d2] => { results := [.lit (.bool false)], args := [d1, d2] }
  | _ => none }
def FnRulePlacesWrongFalsely : Prop := fnRulePlacesRow.holds Tryz.pinned (OpenSpec.ofChange fnRulePlacesWrong)

/-- 'laws.FnNotes': WHATEVER THE INPUT: true; the input reads as it did. -/
def fnNotesSpec : ChangeSpec := { name := "fnNotes", fn := fun _ => fun
  | [d1, d2] => { results := [.lit (.bool true)], args := [d1, d2] }
  | _ => none }
def fnNotesRow : OpenClaim := { program := "ytmnhdjhlcgfpkaagreat", sum := "ccfe82256f01e98d6dfa64bca50ec7e17a046a9d686405d651de972b1ca0bd2e", func := "given.example/pub-querent/laws.FnNotes", spec := "fnNotes", inPlace := ["internal/abi.NoEscape", "internal/bytealg.MakeNoZero"], unfollowed := true, recurses := true, loops := true, plainKeys := false, apart := false }
def FnNotesSaid : Prop := fnNotesRow.holds Tryz.pinned (OpenSpec.ofChange fnNotesSpec)

/-- ITS FALSE NEIGHBOUR: 'it returns false'. Refute it at one input. -/
def fnNotesWrong : ChangeSpec := { name := "fnNotes", fn := fun _ => fun
  | [d1, d2] => { results := [.lit (.bool false)], args := [d1, d2] }
  | _ => none }
def FnNotesWrongFalsely : Prop := fnNotesRow.holds Tryz.pinned (OpenSpec.ofChange fnNotesWrong)

/-- 'laws.FnWanted': WHATEVER THE INPUT: true; the input reads as it did. -/
def fnWantedSpec : ChangeSpec := { name := "fnWanted", fn := fun _ => fun
  | [d1, d2] => { results := [.lit (.bool true)], args := [d1, d2] }
  | _ => none }
def fnWantedRow : OpenClaim := { program := "ytmnhdjhlcgfpkaagreat", sum := "ccfe82256f01e98d6dfa64bca50ec7e17a046a9d686405d651de972b1ca0bd2e", func := "given.example/pub-querent/laws.FnWanted", spec := "fnWanted", inPlace := ["internal/abi.NoEscape", "internal/bytealg.MakeNoZero"], unfollowed := true, recurses := true, loops := true, plainKeys := false, apart := false }
def FnWantedSaid : Prop := fnWantedRow.holds Tryz.pinned (OpenSpec.ofChange fnWantedSpec)

/-- ITS FALSE NEIGHBOUR: 'it returns false'. Refute it at one input. -/
def fnWantedWrong : ChangeSpec := { name := "fnWanted", fn := fun _ => fun
  | [d1, d2] => { results := [.lit (.bool false)], args := [d1, d2] }
  | _ => none }
def FnWantedWrongFalsely : Prop := fnWantedRow.holds Tryz.pinned (OpenSpec.ofChange fnWantedWrong)

/-- 'laws.FnRuleDepth': WHATEVER THE INPUT: true; the input reads as it did. -/
def fnRuleDepthSpec : ChangeSpec := { name := "fnRuleDepth", fn := fun _ => fun
  | [d] => { results := [.lit (.bool true)], args := [d] }
  | _ => none }
def fnRuleDepthRow : OpenClaim := { program := "ytmnhdjhlcgfpkaagreat", sum := "ccfe82256f01e98d6dfa64bca50ec7e17a046a9d686405d651de972b1ca0bd2e", func := "given.example/pub-querent/laws.FnRuleDepth", spec := "fnRuleDepth", unfollowed := true, recurses := true, loops := true, plainKeys := false, apart := false }
def FnRuleDepthSaid : Prop := fnRuleDepthRow.holds Tryz.pinned (OpenSpec.ofChange fnRuleDepthSpec)

/-- ITS FALSE NEIGHBOUR: 'it returns false'. Refute it at one input. -/
def fnRuleDepthWrong : ChangeSpec := { name := "fnRuleDepth", fn := fun _ => fun
  | [d] => { results := [.lit (.bool false)], args := [d] }
  | _ => none }
def FnRuleDepthWrongFalsely : Prop := fnRuleDepthRow.holds Tryz.pinned (OpenSpec.ofChange fnRuleDepthWrong)

/- THE SECOND FORM. 'bulk': how many values and letters a reading holds, each counted each time it is reached (what is shared counts as often as it is met; a slice's spare places count too). A statement '..UptoSaid' is the law's where the arguments, and the package variables that the reading takes, are together of bulk at most 1048576: NARROWER than '..Said'. Prove '..Said' where nothing that the law and all that it calls make is longer than what came in: it says more and counts as full. Else prove '..UptoSaid'. A law counts once. -/
mutual
def uptoBulk {H : Type} : DataW H → Nat
  | .lit (.string bytes) => bytes.length + 1
  | .lit _ => 1
  | .nil => 1
  | .ptr d => uptoBulk d + 1
  | .slice elems spare => uptoBulkAll elems + uptoBulkAll spare + 1
  | .agg parts => uptoBulkAll parts + 1
  | .iface _ d => uptoBulk d + 1
  | .map entries => uptoBulkEntries entries + 1
  | .held _ => 1
def uptoBulkAll {H : Type} : List (DataW H) → Nat
  | [] => 0
  | d :: r => uptoBulk d + uptoBulkAll r
def uptoBulkEntries {H : Type} : List (Lit × DataW H) → Nat
  | [] => 0
  | x :: r => uptoBulkEntry x + uptoBulkEntries r
def uptoBulkEntry {H : Type} : Lit × DataW H → Nat
  | (.string bytes, d) => bytes.length + uptoBulk d + 1
  | (_, d) => uptoBulk d + 1
 end
def uptoSmall : (H : Type) → List (DataW H) → Bool := fun _ ds => decide (uptoBulkAll ds ≤ 1048576)
def OpenSpec.upto (s : _root_.Go.ChangeSpec) : _root_.Go.OpenSpec := { _root_.Go.OpenSpec.ofChange s with cond := some uptoSmall }

/-- 'laws.FnRuleSubs', WHERE WHAT IT READS IS OF BULK AT MOST 1048576: true; the input reads as it did. -/
def fnRuleSubsUptoRow : OpenClaim := { program := "ytmnhdjhlcgfpkaagreat", sum := "ccfe82256f01e98d6dfa64bca50ec7e17a046a9d686405d651de972b1ca0bd2e", func := "given.example/pub-querent/laws.FnRuleSubs", spec := "fnRuleSubs", unfollowed := true, recurses := true, loops := true, plainKeys := false, apart := false, narrowed := true }
def FnRuleSubsUptoSaid : Prop := fnRuleSubsUptoRow.holds Tryz.pinned (OpenSpec.upto fnRuleSubsSpec)

/-- 'laws.FnRulePlaces', WHERE WHAT IT READS IS OF BULK AT MOST 1048576: true; the input reads as it did. -/
def fnRulePlacesUptoRow : OpenClaim := { program := "ytmnhdjhlcgfpkaagreat", sum := "ccfe82256f01e98d6dfa64bca50ec7e17a046a9d686405d651de972b1ca0bd2e", func := "given.example/pub-querent/laws.FnRulePlaces", spec := "fnRulePlaces", unfollowed := true, recurses := true, loops := true, plainKeys := false, apart := false, narrowed := true }
def FnRulePlacesUptoSaid : Prop := fnRulePlacesUptoRow.holds Tryz.pinned (OpenSpec.upto fnRulePlacesSpec)

/-- 'laws.FnNotes', WHERE WHAT IT READS IS OF BULK AT MOST 1048576: true; the input reads as it did. -/
def fnNotesUptoRow : OpenClaim := { program := "ytmnhdjhlcgfpkaagreat", sum := "ccfe82256f01e98d6dfa64bca50ec7e17a046a9d686405d651de972b1ca0bd2e", func := "given.example/pub-querent/laws.FnNotes", spec := "fnNotes", inPlace := ["internal/abi.NoEscape", "internal/bytealg.MakeNoZero"], unfollowed := true, recurses := true, loops := true, plainKeys := false, apart := false, narrowed := true }
def FnNotesUptoSaid : Prop := fnNotesUptoRow.holds Tryz.pinned (OpenSpec.upto fnNotesSpec)

/-- 'laws.FnWanted', WHERE WHAT IT READS IS OF BULK AT MOST 1048576: true; the input reads as it did. -/
def fnWantedUptoRow : OpenClaim := { program := "ytmnhdjhlcgfpkaagreat", sum := "ccfe82256f01e98d6dfa64bca50ec7e17a046a9d686405d651de972b1ca0bd2e", func := "given.example/pub-querent/laws.FnWanted", spec := "fnWanted", inPlace := ["internal/abi.NoEscape", "internal/bytealg.MakeNoZero"], unfollowed := true, recurses := true, loops := true, plainKeys := false, apart := false, narrowed := true }
def FnWantedUptoSaid : Prop := fnWantedUptoRow.holds Tryz.pinned (OpenSpec.upto fnWantedSpec)

/-- 'laws.FnRuleDepth', WHERE WHAT IT READS IS OF BULK AT MOST 1048576: true; the input reads as it did. -/
def fnRuleDepthUptoRow : OpenClaim := { program := "ytmnhdjhlcgfpkaagreat", sum := "ccfe82256f01e98d6dfa64bca50ec7e17a046a9d686405d651de972b1ca0bd2e", func := "given.example/pub-querent/laws.FnRuleDepth", spec := "fnRuleDepth", unfollowed := true, recurses := true, loops := true, plainKeys := false, apart := false, narrowed := true }
def FnRuleDepthUptoSaid : Prop := fnRuleDepthUptoRow.holds Tryz.pinned (OpenSpec.upto fnRuleDepthSpec)

end Rows
end Go.Proofs.YtmnhdjhlcgfpkaaGreat
