/-
  NARROWER THAN 'FOR EVERY INPUT', by the rows' own cells (each row's printed sentence says how): FnRuleArgKnown: loops · FnRuleDirs: loops · FnRuleSpreads: loops · FnRuleVarKnown: loops · FnRuleVarUsed: loops · FnRuleCycles: loops · FnRuleSubs: loops · FnRuleArgThere: loops.
  DERIVED. THE GIVEN ROWS OF THIS SEAT. 8 by the template 'for every input the law returns true; each argument reads behind the call as it read before'; 0 by the template 'total and deterministic' (their statements: YtkgkigklbpefgaaGreatTotals.lean).
  GIVEN WITH THE SEED: the statements are not yours to turn. If you find one false, say at which input.
  Laid BY PROGRAM, IN A SANDBOX (cutbox-rows.mjs): the forced cells as the released guide's own fill.sh prints them over the translation c83e8d6c8fd0907d… (all of the seat's roots in one cut). By AI agents, Wed Nov 11 2026. No macro, syntax, notation, axiom, sorry.
-/
import Derived.Test.YtkgkigklbpefgaaGreatChecked
import GoSem.Claim
import GoSem.ClaimJoined
import GoSem.ClaimMapViews
import Derived.JoinedTies
import Derived.KernelRfl
namespace Go.Proofs.YtkgkigklbpefgaaGreat
/- THE CELL 'sum', in the pinned program and in every row, IS THE sha256 OF THE DUMP (.gsa) THAT YtkgkigklbpefgaaGreatProg.lean LOADS. Nothing in Lean hashes anything: it is a label: what it is worth is what the hold of that sum in a sandbox is worth. -/
noncomputable def Tryz.pinned : Pinned := { name := "ytkgkigklbpefgaagreat", sum := "c83e8d6c8fd0907d4c9d510961a4becaede2a2fe698cf5becf26ed8293064c49", checked := Tryz.checked }
namespace Rows
def none {H : Type} : Left H := { results := [], args := [] }

/-- 'laws.FnRuleArgKnown': WHATEVER THE INPUT: true; the input reads as it did. -/
def fnRuleArgKnownSpec : ChangeSpec := { name := "fnRuleArgKnown", fn := fun _ => fun
  | [d1, d2] => { results := [.lit (.bool true)], args := [d1, d2] }
  | _ => none }
def fnRuleArgKnownRow : OpenClaim := { program := "ytkgkigklbpefgaagreat", sum := "c83e8d6c8fd0907d4c9d510961a4becaede2a2fe698cf5becf26ed8293064c49", func := "given.example/pub-querent/laws.FnRuleArgKnown", spec := "fnRuleArgKnown", unfollowed := true, recurses := true, loops := true, plainKeys := false, apart := false }
def FnRuleArgKnownSaid : Prop := fnRuleArgKnownRow.holds Tryz.pinned (OpenSpec.ofChange fnRuleArgKnownSpec)

/-- ITS FALSE NEIGHBOUR: 'it returns false'. Refute it at one input. -/
def fnRuleArgKnownWrong : ChangeSpec := { name := "fnRuleArgKnown", fn := fun _ => fun
  | [d1, d2] => { results := [.lit (.bool false)], args := [d1, d2] }
  | _ => none }
def FnRuleArgKnownWrongFalsely : Prop := fnRuleArgKnownRow.holds Tryz.pinned (OpenSpec.ofChange fnRuleArgKnownWrong)

/-- 'laws.FnRuleDirs': WHATEVER THE INPUT: true; the input reads as it did. -/
def fnRuleDirsSpec : ChangeSpec := { name := "fnRuleDirs", fn := fun _ => fun
  | [d1, d2] => { results := [.lit (.bool true)], args := [d1, d2] }
  | _ => none }
def fnRuleDirsRow : OpenClaim := { program := "ytkgkigklbpefgaagreat", sum := "c83e8d6c8fd0907d4c9d510961a4becaede2a2fe698cf5becf26ed8293064c49", func := "given.example/pub-querent/laws.FnRuleDirs", spec := "fnRuleDirs", unfollowed := true, recurses := true, loops := true, plainKeys := false, apart := false }
def FnRuleDirsSaid : Prop := fnRuleDirsRow.holds Tryz.pinned (OpenSpec.ofChange fnRuleDirsSpec)

/-- ITS FALSE NEIGHBOUR: 'it returns false'. Refute it at one input. -/
def fnRuleDirsWrong : ChangeSpec := { name := "fnRuleDirs", fn := fun _ => fun
  | [d1, d2] => { results := [.lit (.bool false)], args := [d1, d2] }
  | _ => none }
def FnRuleDirsWrongFalsely : Prop := fnRuleDirsRow.holds Tryz.pinned (OpenSpec.ofChange fnRuleDirsWrong)

/-- 'laws.FnRuleSpreads': WHATEVER THE INPUT: true; the input reads as it did. -/
def fnRuleSpreadsSpec : ChangeSpec := { name := "fnRuleSpreads", fn := fun _ => fun
  | [d1, d2] => { results := [.lit (.bool true)], args := [d1, d2] }
  | _ => none }
def fnRuleSpreadsRow : OpenClaim := { program := "ytkgkigklbpefgaagreat", sum := "c83e8d6c8fd0907d4c9d510961a4becaede2a2fe698cf5becf26ed8293064c49", func := "given.example/pub-querent/laws.FnRuleSpreads", spec := "fnRuleSpreads", unfollowed := true, recurses := true, loops := true, plainKeys := false, apart := false }
def FnRuleSpreadsSaid : Prop := fnRuleSpreadsRow.holds Tryz.pinned (OpenSpec.ofChange fnRuleSpreadsSpec)

/-- ITS FALSE NEIGHBOUR: 'it returns false'. Refute it at one input. -/
def fnRuleSpreadsWrong : ChangeSpec := { name := "fnRuleSpreads", fn := fun _ => fun
  | [d1, d2] => { results := [.lit (.bool false)], args := [d1, d2] }
  | _ => none }
def FnRuleSpreadsWrongFalsely : Prop := fnRuleSpreadsRow.holds Tryz.pinned (OpenSpec.ofChange fnRuleSpreadsWrong)

/-- 'laws.FnRuleVarKnown': WHATEVER THE INPUT: true; the input reads as it did. -/
def fnRuleVarKnownSpec : ChangeSpec := { name := "fnRuleVarKnown", fn := fun _ => fun
  | [d1, d2] => { results := [.lit (.bool true)], args := [d1, d2] }
  | _ => none }
def fnRuleVarKnownRow : OpenClaim := { program := "ytkgkigklbpefgaagreat", sum := "c83e8d6c8fd0907d4c9d510961a4becaede2a2fe698cf5becf26ed8293064c49", func := "given.example/pub-querent/laws.FnRuleVarKnown", spec := "fnRuleVarKnown", unfollowed := true, recurses := true, loops := true, plainKeys := false, apart := false }
def FnRuleVarKnownSaid : Prop := fnRuleVarKnownRow.holds Tryz.pinned (OpenSpec.ofChange fnRuleVarKnownSpec)

/-- ITS FALSE NEIGHBOUR: 'it returns false'. Refute it at one input. -/
def fnRuleVarKnownWrong : ChangeSpec := { name := "fnRuleVarKnown", fn := fun _ => fun
  | [d1, d2] => { results := [.lit (.bool false)], args := [d1, d2] }
  | _ => none }
def FnRuleVarKnownWrongFalsely : Prop := fnRuleVarKnownRow.holds Tryz.pinned (OpenSpec.ofChange fnRuleVarKnownWrong)

/-- 'laws.FnRuleVarUsed': WHATEVER THE INPUT: true; the input reads as it did. -/
def fnRuleVarUsedSpec : ChangeSpec := { name := "fnRuleVarUsed", fn := fun _ => fun
  | [d1, d2] => { results := [.lit (.bool true)], args := [d1, d2] }
  | _ => none }
def fnRuleVarUsedRow : OpenClaim := { program := "ytkgkigklbpefgaagreat", sum := "c83e8d6c8fd0907d4c9d510961a4becaede2a2fe698cf5becf26ed8293064c49", func := "given.example/pub-querent/laws.FnRuleVarUsed", spec := "fnRuleVarUsed", unfollowed := true, recurses := true, loops := true, plainKeys := false, apart := false }
def FnRuleVarUsedSaid : Prop := fnRuleVarUsedRow.holds Tryz.pinned (OpenSpec.ofChange fnRuleVarUsedSpec)

/-- ITS FALSE NEIGHBOUR: 'it returns false'. Refute it at one input. -/
def fnRuleVarUsedWrong : ChangeSpec := { name := "fnRuleVarUsed", fn := fun _ => fun
  | [d1, d2] => { results := [.lit (.bool false)], args := [d1, d2] }
  | _ => none }
def FnRuleVarUsedWrongFalsely : Prop := fnRuleVarUsedRow.holds Tryz.pinned (OpenSpec.ofChange fnRuleVarUsedWrong)

/-- 'laws.FnRuleCycles': WHATEVER THE INPUT: true; the input reads as it did. -/
def fnRuleCyclesSpec : ChangeSpec := { name := "fnRuleCycles", fn := fun _ => fun
  | [d1, d2] => { results := [.lit (.bool true)], args := [d1, d2] }
  | _ => none }
def fnRuleCyclesRow : OpenClaim := { program := "ytkgkigklbpefgaagreat", sum := "c83e8d6c8fd0907d4c9d510961a4becaede2a2fe698cf5becf26ed8293064c49", func := "given.example/pub-querent/laws.FnRuleCycles", spec := "fnRuleCycles", unfollowed := true, recurses := true, loops := true, plainKeys := false, apart := false }
def FnRuleCyclesSaid : Prop := fnRuleCyclesRow.holds Tryz.pinned (OpenSpec.ofChange fnRuleCyclesSpec)

/-- ITS FALSE NEIGHBOUR: 'it returns false'. Refute it at one input. -/
def fnRuleCyclesWrong : ChangeSpec := { name := "fnRuleCycles", fn := fun _ => fun
  | [d1, d2] => { results := [.lit (.bool false)], args := [d1, d2] }
  | _ => none }
def FnRuleCyclesWrongFalsely : Prop := fnRuleCyclesRow.holds Tryz.pinned (OpenSpec.ofChange fnRuleCyclesWrong)

/-- 'laws.FnRuleSubs': WHATEVER THE INPUT: true; the input reads as it did. -/
def fnRuleSubsSpec : ChangeSpec := { name := "fnRuleSubs", fn := fun _ => fun
  | [d1, d2] => { results := [.lit (.bool true)], args := [d1, d2] }
  | _ => none }
def fnRuleSubsRow : OpenClaim := { program := "ytkgkigklbpefgaagreat", sum := "c83e8d6c8fd0907d4c9d510961a4becaede2a2fe698cf5becf26ed8293064c49", func := "given.example/pub-querent/laws.FnRuleSubs", spec := "fnRuleSubs", unfollowed := true, recurses := true, loops := true, plainKeys := false, apart := false }
def FnRuleSubsSaid : Prop := fnRuleSubsRow.holds Tryz.pinned (OpenSpec.ofChange fnRuleSubsSpec)

/-- ITS FALSE NEIGHBOUR: 'it returns false'. Refute it at one input. -/
def fnRuleSubsWrong : ChangeSpec := { name := "fnRuleSubs", fn := fun _ => fun
  | [d1, d2] => { results := [.lit (.bool false)], args := [d1, d2] }
  | _ => none }
def FnRuleSubsWrongFalsely : Prop := fnRuleSubsRow.holds Tryz.pinned (OpenSpec.ofChange fnRuleSubsWrong)

/-- 'laws.FnRuleArgThere': WHATEVER THE INPUT: true; the input reads as it did. -/
def fnRuleArgThereSpec : ChangeSpec := { name := "fnRuleArgThere", fn := fun _ => fun
  | [d1, d2] => { results := [.lit (.bool true)], args := [d1, d2] }
  | _ => none }
def fnRuleArgThereRow : OpenClaim := { program := "ytkgkigklbpefgaagreat", sum := "c83e8d6c8fd0907d4c9d510961a4becaede2a2fe698cf5becf26ed8293064c49", func := "given.example/pub-querent/laws.FnRuleArgThere", spec := "fnRuleArgThere", unfollowed := true, recurses := true, loops := true, plainKeys := false, apart := false }
def FnRuleArgThereSaid : Prop := fnRuleArgThereRow.holds Tryz.pinned (OpenSpec.ofChange fnRuleArgThereSpec)

/-- ITS FALSE NEIGHBOUR: 'it returns false'. Refute it at one input. -/
def fnRuleArgThereWrong : ChangeSpec := { name := "fnRuleArgThere", fn := fun _ => fun
  | [d1, d2] => { results := [.lit (.bool false)], args := [d1, d2] }
  | _ => none }
def FnRuleArgThereWrongFalsely : Prop := fnRuleArgThereRow.holds Tryz.pinned (OpenSpec.ofChange fnRuleArgThereWrong)

/- THE SECOND FORM. 'bulk': how many values and letters a reading holds, each counted each time it is reached (what is shared counts as often as it is met; a slice's spare places count too). A statement '..UptoSaid' is the law's where the arguments, and the package variables that the reading takes, are together of bulk at most 1048576: NARROWER than '..Said'. Prove '..Said' where nothing that the law and all that it calls make is longer than what came in: it says more and counts as full. Else prove '..UptoSaid'. A law counts once. -/
mutual
def uptoBulk {H : Type} : DataW H → Nat
  | .lit (.string bytes) => bytes.length + 1
  | .lit _ => 1
  | .nil => 1
  | .ptr d => uptoBulk d + 1
  | .slice elems spare => uptoBulkAll elems + uptoBulkAll spare + 1
  | .agg parts => uptoBulkAll parts + 1
  | .iface _ d => uptoBulk d + 1
  | .map entries => uptoBulkEntries entries + 1
  | .held _ => 1
def uptoBulkAll {H : Type} : List (DataW H) → Nat
  | [] => 0
  | d :: r => uptoBulk d + uptoBulkAll r
def uptoBulkEntries {H : Type} : List (Lit × DataW H) → Nat
  | [] => 0
  | x :: r => uptoBulkEntry x + uptoBulkEntries r
def uptoBulkEntry {H : Type} : Lit × DataW H → Nat
  | (.string bytes, d) => bytes.length + uptoBulk d + 1
  | (_, d) => uptoBulk d + 1
 end
def uptoSmall : (H : Type) → List (DataW H) → Bool := fun _ ds => decide (uptoBulkAll ds ≤ 1048576)
def OpenSpec.upto (s : _root_.Go.ChangeSpec) : _root_.Go.OpenSpec := { _root_.Go.OpenSpec.ofChange s with cond := some uptoSmall }

/-- 'laws.FnRuleArgKnown', WHERE WHAT IT READS IS OF BULK AT MOST 1048576: true; the input reads as it did. -/
def fnRuleArgKnownUptoRow : OpenClaim := { program := "ytkgkigklbpefgaagreat", sum := "c83e8d6c8fd0907d4c9d510961a4becaede2a2fe698cf5becf26ed8293064c49", func := "given.example/pub-querent/laws.FnRuleArgKnown", spec := "fnRuleArgKnown", unfollowed := true, recurses := true, loops := true, plainKeys := false, apart := false, narrowed := true }
def FnRuleArgKnownUptoSaid : Prop := fnRuleArgKnownUptoRow.holds Tryz.pinned (OpenSpec.upto fnRuleArgKnownSpec)

/-- 'laws.FnRuleDirs', WHERE WHAT IT READS IS OF BULK AT MOST 1048576: true; the input reads as it did. -/
def fnRuleDirsUptoRow : OpenClaim := { program := "ytkgkigklbpefgaagreat", sum := "c83e8d6c8fd0907d4c9d510961a4becaede2a2fe698cf5becf26ed8293064c49", func := "given.example/pub-querent/laws.FnRuleDirs", spec := "fnRuleDirs", unfollowed := true, recurses := true, loops := true, plainKeys := false, apart := false, narrowed := true }
def FnRuleDirsUptoSaid : Prop := fnRuleDirsUptoRow.holds Tryz.pinned (OpenSpec.upto fnRuleDirsSpec)

/-- 'laws.FnRuleSpreads', WHERE WHAT IT READS IS OF BULK AT MOST 1048576: true; the input reads as it did. -/
def fnRuleSpreadsUptoRow : OpenClaim := { program := "ytkgkigklbpefgaagreat", sum := "c83e8d6c8fd0907d4c9d510961a4becaede2a2fe698cf5becf26ed8293064c49", func := "given.example/pub-querent/laws.FnRuleSpreads", spec := "fnRuleSpreads", unfollowed := true, recurses := true, loops := true, plainKeys := false, apart := false, narrowed := true }
def FnRuleSpreadsUptoSaid : Prop := fnRuleSpreadsUptoRow.holds Tryz.pinned (OpenSpec.upto fnRuleSpreadsSpec)

/-- 'laws.FnRuleVarKnown', WHERE WHAT IT READS IS OF BULK AT MOST 1048576: true; the input reads as it did. -/
def fnRuleVarKnownUptoRow : OpenClaim := { program := "ytkgkigklbpefgaagreat", sum := "c83e8d6c8fd0907d4c9d510961a4becaede2a2fe698cf5becf26ed8293064c49", func := "given.example/pub-querent/laws.FnRuleVarKnown", spec := "fnRuleVarKnown", unfollowed := true, recurses := true, loops := true, plainKeys := false, apart := false, narrowed := true }
def FnRuleVarKnownUptoSaid : Prop := fnRuleVarKnownUptoRow.holds Tryz.pinned (OpenSpec.upto fnRuleVarKnownSpec)

/-- 'laws.FnRuleVarUsed', WHERE WHAT IT READS IS OF BULK AT MOST 1048576: true; the input reads as it did. -/
def fnRuleVarUsedUptoRow : OpenClaim := { program := "ytkgkigklbpefgaagreat", sum := "c83e8d6c8fd0907d4c9d510961a4becaede2a2fe698cf5becf26ed8293064c49", func := "given.example/pub-querent/laws.FnRuleVarUsed", spec := "fnRuleVarUsed", unfollowed := true, recurses := true, loops := true, plainKeys := false, apart := false, narrowed := true }
def FnRuleVarUsedUptoSaid : Prop := fnRuleVarUsedUptoRow.holds Tryz.pinned (OpenSpec.upto fnRuleVarUsedSpec)

/-- 'laws.FnRuleCycles', WHERE WHAT IT READS IS OF BULK AT MOST 1048576: true; the input reads as it did. -/
def fnRuleCyclesUptoRow : OpenClaim := { program := "ytkgkigklbpefgaagreat", sum := "c83e8d6c8fd0907d4c9d510961a4becaede2a2fe698cf5becf26ed8293064c49", func := "given.example/pub-querent/laws.FnRuleCycles", spec := "fnRuleCycles", unfollowed := true, recurses := true, loops := true, plainKeys := false, apart := false, narrowed := true }
def FnRuleCyclesUptoSaid : Prop := fnRuleCyclesUptoRow.holds Tryz.pinned (OpenSpec.upto fnRuleCyclesSpec)

/-- 'laws.FnRuleSubs', WHERE WHAT IT READS IS OF BULK AT MOST 1048576: true; the input reads as it did. -/
def fnRuleSubsUptoRow : OpenClaim := { program := "ytkgkigklbpefgaagreat", sum := "c83e8d6c8fd0907d4c9d510961a4becaede2a2fe698cf5becf26ed8293064c49", func := "given.example/pub-querent/laws.FnRuleSubs", spec := "fnRuleSubs", unfollowed := true, recurses := true, loops := true, plainKeys := false, apart := false, narrowed := true }
def FnRuleSubsUptoSaid : Prop := fnRuleSubsUptoRow.holds Tryz.pinned (OpenSpec.upto fnRuleSubsSpec)

/-- 'laws.FnRuleArgThere', WHERE WHAT IT READS IS OF BULK AT MOST 1048576: true; the input reads as it did. -/
def fnRuleArgThereUptoRow : OpenClaim := { program := "ytkgkigklbpefgaagreat", sum := "c83e8d6c8fd0907d4c9d510961a4becaede2a2fe698cf5becf26ed8293064c49", func := "given.example/pub-querent/laws.FnRuleArgThere", spec := "fnRuleArgThere", unfollowed := true, recurses := true, loops := true, plainKeys := false, apart := false, narrowed := true }
def FnRuleArgThereUptoSaid : Prop := fnRuleArgThereUptoRow.holds Tryz.pinned (OpenSpec.upto fnRuleArgThereSpec)

end Rows
end Go.Proofs.YtkgkigklbpefgaaGreat
