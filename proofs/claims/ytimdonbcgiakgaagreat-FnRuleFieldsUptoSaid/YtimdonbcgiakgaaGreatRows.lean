/-
  NARROWER THAN 'FOR EVERY INPUT', by the rows' own cells (each row's printed sentence says how): FnRuleFragUsed: loops · FnRuleLeafs: loops · FnRuleFields: loops · FnRuleArgKnown: loops · FnRuleArgThere: loops · FnRuleDirsTwice: loops · FnRuleDirs: loops · FnRuleSpreads: loops.
  DERIVED. THE GIVEN ROWS OF THIS SEAT. 8 by the template 'for every input the law returns true; each argument reads behind the call as it read before'; 0 by the template 'total and deterministic' (their statements: YtimdonbcgiakgaaGreatTotals.lean).
  GIVEN WITH THE SEED: the statements are not yours to turn. If you find one false, say at which input.
  Laid BY PROGRAM, IN A SANDBOX (cutbox-rows.mjs): the forced cells as the released guide's own fill.sh prints them over the translation c66e3415c02c41e6… (all of the seat's roots in one cut). By AI agents, Wed Nov 11 2026. No macro, syntax, notation, axiom, sorry.
-/
import Derived.Test.YtimdonbcgiakgaaGreatChecked
import GoSem.Claim
import GoSem.ClaimJoined
import GoSem.ClaimMapViews
import Derived.JoinedTies
import Derived.KernelRfl
namespace Go.Proofs.YtimdonbcgiakgaaGreat
/- THE CELL 'sum', in the pinned program and in every row, IS THE sha256 OF THE DUMP (.gsa) THAT YtimdonbcgiakgaaGreatProg.lean LOADS. Nothing in Lean hashes anything: it is a label: what it is worth is what the hold of that sum in a sandbox is worth. -/
noncomputable def Tryz.pinned : Pinned := { name := "ytimdonbcgiakgaagreat", sum := "c66e3415c02c41e6505b6ac889204762100267d90f82759ac8cf8c1713ffe436", checked := Tryz.checked }
namespace Rows
def none {H : Type} : Left H := { results := [], args := [] }

/-- 'laws.FnRuleFragUsed': WHATEVER THE INPUT: true; the input reads as it did. -/
def fnRuleFragUsedSpec : ChangeSpec := { name := "fnRuleFragUsed", fn := fun _ => fun
  | [d1, d2] => { results := [.lit (.bool true)], args := [d1, d2] }
  | _ => none }
def fnRuleFragUsedRow : OpenClaim := { program := "ytimdonbcgiakgaagreat", sum := "c66e3415c02c41e6505b6ac889204762100267d90f82759ac8cf8c1713ffe436", func := "given.example/pub-querent/laws.FnRuleFragUsed", spec := "fnRuleFragUsed", unfollowed := true, recurses := true, loops := true, plainKeys := false, apart := false }
def FnRuleFragUsedSaid : Prop := fnRuleFragUsedRow.holds Tryz.pinned (OpenSpec.ofChange fnRuleFragUsedSpec)

/-- ITS FALSE NEIGHBOUR: 'it returns false'. Refute it at one input. -/
def fnRuleFragUsedWrong : ChangeSpec := { name := "fnRuleFragUsed", fn := fun _ => fun
  | [d1, d2] => { results := [.lit (.bool false)], args := [d1, d2] }
  | _ => none }
def FnRuleFragUsedWrongFalsely : Prop := fnRuleFragUsedRow.holds Tryz.pinned (OpenSpec.ofChange fnRuleFragUsedWrong)

/-- 'laws.FnRuleLeafs': WHATEVER THE INPUT: true; the input reads as it did. -/
def fnRuleLeafsSpec : ChangeSpec := { name := "fnRuleLeafs", fn := fun _ => fun
  | [d1, d2] => { results := [.lit (.bool true)], args := [d1, d2] }
  | _ => none }
def fnRuleLeafsRow : OpenClaim := { program := "ytimdonbcgiakgaagreat", sum := "c66e3415c02c41e6505b6ac889204762100267d90f82759ac8cf8c1713ffe436", func := "given.example/pub-querent/laws.FnRuleLeafs", spec := "fnRuleLeafs", unfollowed := true, recurses := true, loops := true, plainKeys := false, apart := false }
def FnRuleLeafsSaid : Prop := fnRuleLeafsRow.holds Tryz.pinned (OpenSpec.ofChange fnRuleLeafsSpec)

/-- ITS FALSE NEIGHBOUR: 'it returns false'. Refute it at one input. -/
def fnRuleLeafsWrong : ChangeSpec := { name := "fnRuleLeafs", fn := fun _ => fun
  | [d1, d2] => { results := [.lit (.bool false)], args := [d1, d2] }
  | _ => none }
def FnRuleLeafsWrongFalsely : Prop := fnRuleLeafsRow.holds Tryz.pinned (OpenSpec.ofChange fnRuleLeafsWrong)

/-- 'laws.FnRuleFields': WHATEVER THE INPUT: true; the input reads as it did. -/
def fnRuleFieldsSpec : ChangeSpec := { name := "fnRuleFields", fn := fun _ => fun
  | [d1, d2] => { results := [.lit (.bool true)], args := [d1, d2] }
  | _ => none }
def fnRuleFieldsRow : OpenClaim := { program := "ytimdonbcgiakgaagreat", sum := "c66e3415c02c41e6505b6ac889204762100267d90f82759ac8cf8c1713ffe436", func := "given.example/pub-querent/laws.FnRuleFields", spec := "fnRuleFields", unfollowed := true, recurses := true, loops := true, plainKeys := false, apart := false }
def FnRuleFieldsSaid : Prop := fnRuleFieldsRow.holds Tryz.pinned (OpenSpec.ofChange fnRuleFieldsSpec)

/-- ITS FALSE NEIGHBOUR: 'it returns false'. Refute it at one input. -/
def fnRuleFieldsWrong : ChangeSpec := { name := "fnRuleFields", fn := fun _ => fun
  | [d1, d2] => { results := [.lit (.bool false)], args := [d1, d2] }
  | _ => none }
def FnRuleFieldsWrongFalsely : Prop := fnRuleFieldsRow.holds Tryz.pinned (OpenSpec.ofChange fnRuleFieldsWrong)

/-- 'laws.FnRuleArgKnown': WHATEVER THE INPUT: true; the input reads as it did. -/
def fnRuleArgKnownSpec : ChangeSpec := { name := "fnRuleArgKnown", fn := fun _ => fun
  | [d1, d2] => { results := [.lit (.bool true)], args := [d1, d2] }
  | _ => none }
def fnRuleArgKnownRow : OpenClaim := { program := "ytimdonbcgiakgaagreat", sum := "c66e3415c02c41e6505b6ac889204762100267d90f82759ac8cf8c1713ffe436", func := "given.example/pub-querent/laws.FnRuleArgKnown", spec := "fnRuleArgKnown", unfollowed := true, recurses := true, loops := true, plainKeys := false, apart := false }
def FnRuleArgKnownSaid : Prop := fnRuleArgKnownRow.holds Tryz.pinned (OpenSpec.ofChange fnRuleArgKnownSpec)

/-- ITS FALSE NEIGHBOUR: 'it returns false'. Refute it at one input. -/
def fnRuleArgKnownWrong : ChangeSpec := { name := "fnRuleArgKnown", fn := fun _ => fun
  | [d1, d2] => { results := [.lit (.bool false)], args := [d1, d2] }
  | _ => none }
def FnRuleArgKnownWrongFalsely : Prop := fnRuleArgKnownRow.holds Tryz.pinned (OpenSpec.ofChange fnRuleArgKnownWrong)

/-- 'laws.FnRuleArgThere': WHATEVER THE INPUT: true; the input reads as it did. -/
def fnRuleArgThereSpec : ChangeSpec := { name := "fnRuleArgThere", fn := fun _ => fun
  | [d1, d2] => { results := [.lit (.bool true)], args := [d1, d2] }
  | _ => none }
def fnRuleArgThereRow : OpenClaim := { program := "ytimdonbcgiakgaagreat", sum := "c66e3415c02c41e6505b6ac889204762100267d90f82759ac8cf8c1713ffe436", func := "given.example/pub-querent/laws.FnRuleArgThere", spec := "fnRuleArgThere", unfollowed := true, recurses := true, loops := true, plainKeys := false, apart := false }
def FnRuleArgThereSaid : Prop := fnRuleArgThereRow.holds Tryz.pinned (OpenSpec.ofChange fnRuleArgThereSpec)

/-- ITS FALSE NEIGHBOUR: 'it returns false'. Refute it at one input. -/
def fnRuleArgThereWrong : ChangeSpec := { name := "fnRuleArgThere", fn := fun _ => fun
  | [d1, d2] => { results := [.lit (.bool false)], args := [d1, d2] }
  | _ => none }
def FnRuleArgThereWrongFalsely : Prop := fnRuleArgThereRow.holds Tryz.pinned (OpenSpec.ofChange fnRuleArgThereWrong)

/-- 'laws.FnRuleDirsTwice': WHATEVER THE INPUT: true; the input reads as it did. -/
def fnRuleDirsTwiceSpec : ChangeSpec := { name := "fnRuleDirsTwice", fn := fun _ => fun
  | [d1, d2] => { results := [.lit (.bool true)], args := [d1, d2] }
  | _ => none }
def fnRuleDirsTwiceRow : OpenClaim := { program := "ytimdonbcgiakgaagreat", sum := "c66e3415c02c41e6505b6ac889204762100267d90f82759ac8cf8c1713ffe436", func := "given.example/pub-querent/laws.FnRuleDirsTwice", spec := "fnRuleDirsTwice", unfollowed := true, recurses := true, loops := true, plainKeys := false, apart := false }
def FnRuleDirsTwiceSaid : Prop := fnRuleDirsTwiceRow.holds Tryz.pinned (OpenSpec.ofChange fnRuleDirsTwiceSpec)

/-- ITS FALSE NEIGHBOUR: 'it returns false'. Refute it at one input. -/
def fnRuleDirsTwiceWrong : ChangeSpec := { name := "fnRuleDirsTwice", fn := fun _ => fun
  | [d1, d2] => { results := [.lit (.bool false)], args := [d1, d2] }
  | _ => none }
def FnRuleDirsTwiceWrongFalsely : Prop := fnRuleDirsTwiceRow.holds Tryz.pinned (OpenSpec.ofChange fnRuleDirsTwiceWrong)

/-- 'laws.FnRuleDirs': WHATEVER THE INPUT: true; the input reads as it did. -/
def fnRuleDirsSpec : ChangeSpec := { name := "fnRuleDirs", fn := fun _ => fun
  | [d1, d2] => { results := [.lit (.bool true)], args := [d1, d2] }
  | _ => none }
def fnRuleDirsRow : OpenClaim := { program := "ytimdonbcgiakgaagreat", sum := "c66e3415c02c41e6505b6ac889204762100267d90f82759ac8cf8c1713ffe436", func := "given.example/pub-querent/laws.FnRuleDirs", spec := "fnRuleDirs", unfollowed := true, recurses := true, loops := true, plainKeys := false, apart := false }
def FnRuleDirsSaid : Prop := fnRuleDirsRow.holds Tryz.pinned (OpenSpec.ofChange fnRuleDirsSpec)

/-- ITS FALSE NEIGHBOUR: 'it returns false'. Refute it at one input. -/
def fnRuleDirsWrong : ChangeSpec := { name := "fnRuleDirs", fn := fun _ => fun
  | [d1, d2] => { results := [.lit (.bool false)], args := [d1, d2] }
  | _ => none }
def FnRuleDirsWrongFalsely : Prop := fnRuleDirsRow.holds Tryz.pinned (OpenSpec.ofChange fnRuleDirsWrong)

/-- 'laws.FnRuleSpreads': WHATEVER THE INPUT: true; the input reads as it did. -/
def fnRuleSpreadsSpec : ChangeSpec := { name := "fnRuleSpreads", fn := fun _ => fun
  | [d1, d2] => { results := [.lit (.bool true)], args := [d1, d2] }
  | _ => none }
def fnRuleSpreadsRow : OpenClaim := { program := "ytimdonbcgiakgaagreat", sum := "c66e3415c02c41e6505b6ac889204762100267d90f82759ac8cf8c1713ffe436", func := "given.example/pub-querent/laws.FnRuleSpreads", spec := "fnRuleSpreads", unfollowed := true, recurses := true, loops := true, plainKeys := false, apart := false }
def FnRuleSpreadsSaid : Prop := fnRuleSpreadsRow.holds Tryz.pinned (OpenSpec.ofChange fnRuleSpreadsSpec)

/-- ITS FALSE NEIGHBOUR: 'it returns false'. Refute it at one input. -/
def fnRuleSpreadsWrong : ChangeSpec := { name := "fnRuleSpreads", fn := fun _ => fun
  | [d1, d2] => { results := [.lit (.bool false)], args := [d1, d2] }
  | _ => none }
def FnRuleSpreadsWrongFalsely : Prop := fnRuleSpreadsRow.holds Tryz.pinned (OpenSpec.ofChange fnRuleSpreadsWrong)

/- THE SECOND FORM. 'bulk': how many values and letters a reading holds, each counted each time it is reached (what is shared counts as often as it is met; a slice's spare places count too). A statement '..UptoSaid' is the law's where the arguments, and the package variables that the reading takes, are together of bulk at most 1048576: NARROWER than '..Said'. Prove '..Said' where nothing that the law and all that it calls make is longer than what came in: it says more and counts as full. Else prove '..UptoSaid'. A law counts once. -/
mutual
def uptoBulk {H : Type} : DataW H → Nat
  | .lit (.string bytes) => bytes.length + 1
  | .lit _ => 1
  | .nil => 1
  | .ptr d => uptoBulk d + 1
  | .slice elems spare => uptoBulkAll elems + uptoBulkAll spare + 1
  | .agg parts => uptoBulkAll parts + 1
  | .iface _ d => uptoBulk d + 1
  | .map entries => uptoBulkEntries entries + 1
  | .held _ => 1
def uptoBulkAll {H : Type} : List (DataW H) → Nat
  | [] => 0
  | d :: r => uptoBulk d + uptoBulkAll r
def uptoBulkEntries {H : Type} : List (Lit × DataW H) → Nat
  | [] => 0
  | x :: r => uptoBulkEntry x + uptoBulkEntries r
def uptoBulkEntry {H : Type} : Lit × DataW H → Nat
  | (.string bytes, d) => bytes.length + uptoBulk d + 1
  | (_, d) => uptoBulk d + 1
 end
def uptoSmall : (H : Type) → List (DataW H) → Bool := fun _ ds => decide (uptoBulkAll ds ≤ 1048576)
def OpenSpec.upto (s : _root_.Go.ChangeSpec) : _root_.Go.OpenSpec := { _root_.Go.OpenSpec.ofChange s with cond := some uptoSmall }

/-- 'laws.FnRuleFragUsed', WHERE WHAT IT READS IS OF BULK AT MOST 1048576: true; the input reads as it did. -/
def fnRuleFragUsedUptoRow : OpenClaim := { program := "ytimdonbcgiakgaagreat", sum := "c66e3415c02c41e6505b6ac889204762100267d90f82759ac8cf8c1713ffe436", func := "given.example/pub-querent/laws.FnRuleFragUsed", spec := "fnRuleFragUsed", unfollowed := true, recurses := true, loops := true, plainKeys := false, apart := false, narrowed := true }
def FnRuleFragUsedUptoSaid : Prop := fnRuleFragUsedUptoRow.holds Tryz.pinned (OpenSpec.upto fnRuleFragUsedSpec)

/-- 'laws.FnRuleLeafs', WHERE WHAT IT READS IS OF BULK AT MOST 1048576: true; the input reads as it did. -/
def fnRuleLeafsUptoRow : OpenClaim := { program := "ytimdonbcgiakgaagreat", sum := "c66e3415c02c41e6505b6ac889204762100267d90f82759ac8cf8c1713ffe436", func := "given.example/pub-querent/laws.FnRuleLeafs", spec := "fnRuleLeafs", unfollowed := true, recurses := true, loops := true, plainKeys := false, apart := false, narrowed := true }
def FnRuleLeafsUptoSaid : Prop := fnRuleLeafsUptoRow.holds Tryz.pinned (OpenSpec.upto fnRuleLeafsSpec)

/-- 'laws.FnRuleFields', WHERE WHAT IT READS IS OF BULK AT MOST 1048576: true; the input reads as it did. -/
def fnRuleFieldsUptoRow : OpenClaim := { program := "ytimdonbcgiakgaagreat", sum := "c66e3415c02c41e6505b6ac889204762100267d90f82759ac8cf8c1713ffe436", func := "given.example/pub-querent/laws.FnRuleFields", spec := "fnRuleFields", unfollowed := true, recurses := true, loops := true, plainKeys := false, apart := false, narrowed := true }
def FnRuleFieldsUptoSaid : Prop := fnRuleFieldsUptoRow.holds Tryz.pinned (OpenSpec.upto fnRuleFieldsSpec)

/-- 'laws.FnRuleArgKnown', WHERE WHAT IT READS IS OF BULK AT MOST 1048576: true; the input reads as it did. -/
def fnRuleArgKnownUptoRow : OpenClaim := { program := "ytimdonbcgiakgaagreat", sum := "c66e3415c02c41e6505b6ac889204762100267d90f82759ac8cf8c1713ffe436", func := "given.example/pub-querent/laws.FnRuleArgKnown", spec := "fnRuleArgKnown", unfollowed := true, recurses := true, loops := true, plainKeys := false, apart := false, narrowed := true }
def FnRuleArgKnownUptoSaid : Prop := fnRuleArgKnownUptoRow.holds Tryz.pinned (OpenSpec.upto fnRuleArgKnownSpec)

/-- 'laws.FnRuleArgThere', WHERE WHAT IT READS IS OF BULK AT MOST 1048576: true; the input reads as it did. -/
def fnRuleArgThereUptoRow : OpenClaim := { program := "ytimdonbcgiakgaagreat", sum := "c66e3415c02c41e6505b6ac889204762100267d90f82759ac8cf8c1713ffe436", func := "given.example/pub-querent/laws.FnRuleArgThere", spec := "fnRuleArgThere", unfollowed := true, recurses := true, loops := true, plainKeys := false, apart := false, narrowed := true }
def FnRuleArgThereUptoSaid : Prop := fnRuleArgThereUptoRow.holds Tryz.pinned (OpenSpec.upto fnRuleArgThereSpec)

/-- 'laws.FnRuleDirsTwice', WHERE WHAT IT READS IS OF BULK AT MOST 1048576: true; the input reads as it did. -/
def fnRuleDirsTwiceUptoRow : OpenClaim := { program := "ytimdonbcgiakgaagreat", sum := "c66e3415c02c41e6505b6ac889204762100267d90f82759ac8cf8c1713ffe436", func := "given.example/pub-querent/laws.FnRuleDirsTwice", spec := "fnRuleDirsTwice", unfollowed := true, recurses := true, loops := true, plainKeys := false, apart := false, narrowed := true }
def FnRuleDirsTwiceUptoSaid : Prop := fnRuleDirsTwiceUptoRow.holds Tryz.pinned (OpenSpec.upto fnRuleDirsTwiceSpec)

/-- 'laws.FnRuleDirs', WHERE WHAT IT READS IS OF BULK AT MOST 1048576: true; the input reads as it did. -/
def fnRuleDirsUptoRow : OpenClaim := { program := "ytimdonbcgiakgaagreat", sum := "c66e3415c02c41e6505b6ac889204762100267d90f82759ac8cf8c1713ffe436", func := "given.example/pub-querent/laws.FnRuleDirs", spec := "fnRuleDirs", unfollowed := true, recurses := true, loops := true, plainKeys := false, apart := false, narrowed := true }
def FnRuleDirsUptoSaid : Prop := fnRuleDirsUptoRow.holds Tryz.pinned (OpenSpec.upto fnRuleDirsSpec)

/-- 'laws.FnRuleSpreads', WHERE WHAT IT READS IS OF BULK AT MOST 1048576: true; the input reads as it did. -/
def fnRuleSpreadsUptoRow : OpenClaim := { program := "ytimdonbcgiakgaagreat", sum := "c66e3415c02c41e6505b6ac889204762100267d90f82759ac8cf8c1713ffe436", func := "given.example/pub-querent/laws.FnRuleSpreads", spec := "fnRuleSpreads", unfollowed := true, recurses := true, loops := true, plainKeys := false, apart := false, narrowed := true }
def FnRuleSpreadsUptoSaid : Prop := fnRuleSpreadsUptoRow.holds Tryz.pinned (OpenSpec.upto fnRuleSpreadsSpec)

end Rows
end Go.Proofs.YtimdonbcgiakgaaGreat
