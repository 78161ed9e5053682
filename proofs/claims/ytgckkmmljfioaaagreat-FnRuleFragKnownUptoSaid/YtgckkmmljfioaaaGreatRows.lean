/-
  NARROWER THAN 'FOR EVERY INPUT', by the rows' own cells (each row's printed sentence says how): FnRuleFragKnown: loops · FnRuleLone: loops · FnRuleFrags: loops · FnRuleOps: loops · FnRuleVars: loops.
  DERIVED. THE GIVEN ROWS OF THIS SEAT. 5 by the template 'for every input the law returns true; each argument reads behind the call as it read before'; 0 by the template 'total and deterministic' (their statements: YtgckkmmljfioaaaGreatTotals.lean).
  GIVEN WITH THE SEED: the statements are not yours to turn. If you find one false, say at which input.
  Laid BY PROGRAM, IN A SANDBOX (cutbox-rows.mjs): the forced cells as the released guide's own fill.sh prints them over the translation 78d0ce3a36510ef0… (all of the seat's roots in one cut). By AI agents, Wed Nov 11 2026. No macro, syntax, notation, axiom, sorry.
-/
import Derived.Test.YtgckkmmljfioaaaGreatChecked
import GoSem.Claim
import GoSem.ClaimJoined
import GoSem.ClaimMapViews
import Derived.JoinedTies
import Derived.KernelRfl
namespace Go.Proofs.YtgckkmmljfioaaaGreat
/- THE CELL 'sum', in the pinned program and in every row, IS THE sha256 OF THE DUMP (.gsa) THAT YtgckkmmljfioaaaGreatProg.lean LOADS. Nothing in Lean hashes anything: it is a label: what it is worth is what the hold of that sum in a sandbox is worth. -/
noncomputable def Tryz.pinned : Pinned := { name := "ytgckkmmljfioaaagreat", sum := "78d0ce3a36510ef094121728aba4e6e58bf8a710c162588109162ab78d18b65c", checked := Tryz.checked }
namespace Rows
def none {H : Type} : Left H := { results := [], args := [] }

/-- 'laws.FnRuleFragKnown': WHATEVER THE INPUT: true; the input reads as it did. -/
def fnRuleFragKnownSpec : ChangeSpec := { name := "fnRuleFragKnown", fn := fun _ => fun
  | [d1, d2] => { results := [.lit (.bool true)], args := [d1, d2] }
  | _ => none }
def fnRuleFragKnownRow : OpenClaim := { program := "ytgckkmmljfioaaagreat", sum := "78d0ce3a36510ef094121728aba4e6e58bf8a710c162588109162ab78d18b65c", func := "given.example/pub-querent/laws.FnRuleFragKnown", spec := "fnRuleFragKnown", unfollowed := true, recurses := true, loops := true, apart := false }
def FnRuleFragKnownSaid : Prop := fnRuleFragKnownRow.holds Tryz.pinned (OpenSpec.ofChange fnRuleFragKnownSpec)

/-- ITS FALSE NEIGHBOUR: 'it returns false'. Refute it at one input. -/
def fnRuleFragKnownWrong : ChangeSpec := { name := "fnRuleFragKnown", fn := fun _ => fun
  | [d1, d2] => { results := [.lit (.bool false)], args := [d1, d2] }
  | _ => none }
def FnRuleFragKnownWrongFalsely : Prop := fnRuleFragKnownRow.holds Tryz.pinned (OpenSpec.ofChange fnRuleFragKnownWrong)

/-- 'laws.FnRuleLone': WHATEVER THE INPUT: true; the input reads as it did. -/
def fnRuleLoneSpec : ChangeSpec := { name := "fnRuleLone", fn := fun _ => fun
  | [d1, d2] => { results := [.lit (.bool true)], args := [d1, d2] }
  | _ => none }
def fnRuleLoneRow : OpenClaim := { program := "ytgckkmmljfioaaagreat", sum := "78d0ce3a36510ef094121728aba4e6e58bf8a710c162588109162ab78d18b65c", func := "given.example/pub-querent/laws.FnRuleLone", spec := "fnRuleLone", unfollowed := true, recurses := true, loops := true, apart := false }
def FnRuleLoneSaid : Prop := fnRuleLoneRow.holds Tryz.pinned (OpenSpec.ofChange fnRuleLoneSpec)

/-- ITS FALSE NEIGHBOUR: 'it returns false'. Refute it at one input. -/
def fnRuleLoneWrong : ChangeSpec := { name := "fnRuleLone", fn := fun _ => fun
  | [d1, d2] => { results := [.lit (.bool false)], args := [d1, d2] }
  | _ => none }
def FnRuleLoneWrongFalsely : Prop := fnRuleLoneRow.holds Tryz.pinned (OpenSpec.ofChange fnRuleLoneWrong)

/-- 'laws.FnRuleFrags': WHATEVER THE INPUT: true; the input reads as it did. -/
def fnRuleFragsSpec : ChangeSpec := { name := "fnRuleFrags", fn := fun _ => fun
  | [d1, d2] => { results := [.lit (.bool true)], args := [d1, d2] }
  | _ => none }
def fnRuleFragsRow : OpenClaim := { program := "ytgckkmmljfioaaagreat", sum := "78d0ce3a36510ef094121728aba4e6e58bf8a710c162588109162ab78d18b65c", func := "given.example/pub-querent/laws.FnRuleFrags", spec := "fnRuleFrags", unfollowed := true, recurses := true, loops := true, apart := false }
def FnRuleFragsSaid : Prop := fnRuleFragsRow.holds Tryz.pinned (OpenSpec.ofChange fnRuleFragsSpec)

/-- ITS FALSE NEIGHBOUR: 'it returns false'. Refute it at one input. -/
def fnRuleFragsWrong : ChangeSpec := { name := "fnRuleFrags", fn := fun _ => fun
  | [d1, d2] => { results := [.lit (.bool false)], args := [d1, d2] }
  | _ => none }
def FnRuleFragsWrongFalsely : Prop := fnRuleFragsRow.holds Tryz.pinned (OpenSpec.ofChange fnRuleFragsWrong)

/-- 'laws.FnRuleOps': WHATEVER THE INPUT: true; the input reads as it did. -/
def fnRuleOpsSpec : ChangeSpec := { name := "fnRuleOps", fn := fun _ => fun
  | [d1, d2] => { results := [.lit (.bool true)], args := [d1, d2] }
  | _ => none }
def fnRuleOpsRow : OpenClaim := { program := "ytgckkmmljfioaaagreat", sum := "78d0ce3a36510ef094121728aba4e6e58bf8a710c162588109162ab78d18b65c", func := "given.example/pub-querent/laws.FnRuleOps", spec := "fnRuleOps", unfollowed := true, recurses := true, loops := true, apart := false }
def FnRuleOpsSaid : Prop := fnRuleOpsRow.holds Tryz.pinned (OpenSpec.ofChange fnRuleOpsSpec)

/-- ITS FALSE NEIGHBOUR: 'it returns false'. Refute it at one input. -/
def fnRuleOpsWrong : ChangeSpec := { name := "fnRuleOps", fn := fun _ => fun
  | [d1, d2] => { results := [.lit (.bool false)], args := [d1, d2] }
  | _ => none }
def FnRuleOpsWrongFalsely : Prop := fnRuleOpsRow.holds Tryz.pinned (OpenSpec.ofChange fnRuleOpsWrong)

/-- 'laws.FnRuleVars': WHATEVER THE INPUT: true; the input reads as it did. -/
def fnRuleVarsSpec : ChangeSpec := { name := "fnRuleVars", fn := fun _ => fun
  | [d1, d2] => { results := [.lit (.bool true)], args := [d1, d2] }
  | _ => none }
def fnRuleVarsRow : OpenClaim := { program := "ytgckkmmljfioaaagreat", sum := "78d0ce3a36510ef094121728aba4e6e58bf8a710c162588109162ab78d18b65c", func := "given.example/pub-querent/laws.FnRuleVars", spec := "fnRuleVars", unfollowed := true, recurses := true, loops := true, apart := false }
def FnRuleVarsSaid : Prop := fnRuleVarsRow.holds Tryz.pinned (OpenSpec.ofChange fnRuleVarsSpec)

/-- ITS FALSE NEIGHBOUR: 'it returns false'. Refute it at one input. -/
def fnRuleVarsWrong : ChangeSpec := { name := "fnRuleVars", fn := fun _ => fun
  | [d1, d2] => { results := [.lit (.bool false)], args := [d1, d2] }
  | _ => none }
def FnRuleVarsWrongFalsely : Prop := fnRuleVarsRow.holds Tryz.pinned (OpenSpec.ofChange fnRuleVarsWrong)

/- THE SECOND FORM. 'bulk': how many values and letters a reading holds, each counted each time it is reached (what is shared counts as often as it is met; a slice's spare places count too). A statement '..UptoSaid' is the law's where the arguments, and the package variables that the reading takes, are together of bulk at most 1048576: NARROWER than '..Said'. Prove '..Said' where nothing that the law and all that it calls make is longer than what came in: it says more and counts as full. Else prove '..UptoSaid'. A law counts once. -/
mutual
def uptoBulk {H : Type} : DataW H → Nat
  | .lit (.string bytes) => bytes.length + 1
  | .lit _ => 1
  | .nil => 1
  | .ptr d => uptoBulk d + 1
  | .slice elems spare => uptoBulkAll elems + uptoBulkAll spare + 1
  | .agg parts => uptoBulkAll parts + 1
  | .iface _ d => uptoBulk d + 1
  | .map entries => uptoBulkEntries entries + 1
  | .held _ => 1
def uptoBulkAll {H : Type} : List (DataW H) → Nat
  | [] => 0
  | d :: r => uptoBulk d + uptoBulkAll r
def uptoBulkEntries {H : Type} : List (Lit × DataW H) → Nat
  | [] => 0
  | x :: r => uptoBulkEntry x + uptoBulkEntries r
def uptoBulkEntry {H : Type} : Lit × DataW H → Nat
  | (.string bytes, d) => bytes.length + uptoBulk d + 1
  | (_, d) => uptoBulk d + 1
 end
def uptoSmall : (H : Type) → List (DataW H) → Bool := fun _ ds => decide (uptoBulkAll ds ≤ 1048576)
def OpenSpec.upto (s : _root_.Go.ChangeSpec) : _root_.Go.OpenSpec := { _root_.Go.OpenSpec.ofChange s with cond := some uptoSmall }

/-- 'laws.FnRuleFragKnown', WHERE WHAT IT READS IS OF BULK AT MOST 1048576: true; the input reads as it did. -/
def fnRuleFragKnownUptoRow : OpenClaim := { program := "ytgckkmmljfioaaagreat", sum := "78d0ce3a36510ef094121728aba4e6e58bf8a710c162588109162ab78d18b65c", func := "given.example/pub-querent/laws.FnRuleFragKnown", spec := "fnRuleFragKnown", unfollowed := true, recurses := true, loops := true, apart := false, narrowed := true }
def FnRuleFragKnownUptoSaid : Prop := fnRuleFragKnownUptoRow.holds Tryz.pinned (OpenSpec.upto fnRuleFragKnownSpec)

/-- 'laws.FnRuleLone', WHERE WHAT IT READS IS OF BULK AT MOST 1048576: true; the input reads as it did. -/
def fnRuleLoneUptoRow : OpenClaim := { program := "ytgckkmmljfioaaagreat", sum := "78d0ce3a36510ef094121728aba4e6e58bf8a710c162588109162ab78d18b65c", func := "given.example/pub-querent/laws.FnRuleLone", spec := "fnRuleLone", unfollowed := true, recurses := true, loops := true, apart := false, narrowed := true }
def FnRuleLoneUptoSaid : Prop := fnRuleLoneUptoRow.holds Tryz.pinned (OpenSpec.upto fnRuleLoneSpec)

/-- 'laws.FnRuleFrags', WHERE WHAT IT READS IS OF BULK AT MOST 1048576: true; the input reads as it did. -/
def fnRuleFragsUptoRow : OpenClaim := { program := "ytgckkmmljfioaaagreat", sum := "78d0ce3a36510ef094121728aba4e6e58bf8a710c162588109162ab78d18b65c", func := "given.example/pub-querent/laws.FnRuleFrags", spec := "fnRuleFrags", unfollowed := true, recurses := true, loops := true, apart := false, narrowed := true }
def FnRuleFragsUptoSaid : Prop := fnRuleFragsUptoRow.holds Tryz.pinned (OpenSpec.upto fnRuleFragsSpec)

/-- 'laws.FnRuleOps', WHERE WHAT IT READS IS OF BULK AT MOST 1048576: true; the input reads as it did. -/
def fnRuleOpsUptoRow : OpenClaim := { program := "ytgckkmmljfioaaagreat", sum := "78d0ce3a36510ef094121728aba4e6e58bf8a710c162588109162ab78d18b65c", func := "given.example/pub-querent/laws.FnRuleOps", spec := "fnRuleOps", unfollowed := true, recurses := true, loops := true, apart := false, narrowed := true }
def FnRuleOpsUptoSaid : Prop := fnRuleOpsUptoRow.holds Tryz.pinned (OpenSpec.upto fnRuleOpsSpec)

/-- 'laws.FnRuleVars', WHERE WHAT IT READS IS OF BULK AT MOST 1048576: true; the input reads as it did. -/
def fnRuleVarsUptoRow : OpenClaim := { program := "ytgckkmmljfioaaagreat", sum := "78d0ce3a36510ef094121728aba4e6e58bf8a710c162588109162ab78d18b65c", func := "given.example/pub-querent/laws.FnRuleVars", spec := "fnRuleVars", unfollowed := true, recurses := true, loops := true, apart := false, narrowed := true }
def FnRuleVarsUptoSaid : Prop := fnRuleVarsUptoRow.holds Tryz.pinned (OpenSpec.upto fnRuleVarsSpec)

end Rows
end Go.Proofs.YtgckkmmljfioaaaGreat
