/-
  NARROWER THAN 'FOR EVERY INPUT', by the rows' own cells (each row's printed sentence says how): FnJValid: loops, laid · FnJNot: loops, laid · FnJAll: loops, laid · FnJIf: loops, laid · FnJRef: loops, laid · FnJMorgan: loops, laid · FnJEither: loops, laid · FnJDistribute: loops, laid · FnJChoice: loops, laid · FnJBehind: loops, laid.
  DERIVED. THE GIVEN ROWS OF THIS SEAT. 10 by the template 'for every input the law returns true; each argument reads behind the call as it read before'; 0 by the template 'total and deterministic' (their statements: YtdakokhbeoohlaaGreatDoorTotals.lean).
  GIVEN WITH THE SEED: the statements are not yours to turn. If you find one false, say at which input.
  Laid BY PROGRAM, IN A SANDBOX (cutbox-rows.mjs): the forced cells as the released guide's own fill.sh prints them over the translation 486ea8a26ee03133… (all of the seat's roots in one cut). By AI agents, Wed Nov 11 2026. No macro, syntax, notation, axiom, sorry.
-/
import Derived.Test.YtdakokhbeoohlaaGreatDoorChecked
import GoSem.Claim
import GoSem.ClaimJoined
import GoSem.ClaimMapViews
import Derived.JoinedTies
import Derived.KernelRfl
namespace Go.Proofs.YtdakokhbeoohlaaGreatDoor
/- THE CELL 'sum', in the pinned program and in every row, IS THE sha256 OF THE DUMP (.gsa) THAT YtdakokhbeoohlaaGreatDoorProg.lean LOADS. Nothing in Lean hashes anything: it is a label: what it is worth is what the hold of that sum in a sandbox is worth. -/
noncomputable def Tryz.pinned : Pinned := { name := "ytdakokhbeoohlaagreatdoor", sum := "486ea8a26ee03133fed12a449f8049fc9c2f5669132cb75edb6a42901b30eec3", checked := Tryz.checked }
namespace Rows
def none {H : Type} : Left H := { results := [], args := [] }

/- WHAT THE LISTED PACKAGE-LEVEL VARIABLES READ AS WHEN THE CALL BEGINS. Each datum BY PROGRAM (the guide's laid-datum.mjs) off the statement by which the dump's own 'gosem.cut.vars' lays the variable. In a bare row this is a premise. The card (YtdakokhbeoohlaaGreatDoorCards.lean) ties it to the program's text. -/
def laid_math_bits_deBruijn32tab {H : Type} : DataW H := .agg [.lit (.int .u8 0), .lit (.int .u8 1), .lit (.int .u8 28), .lit (.int .u8 2), .lit (.int .u8 29), .lit (.int .u8 14), .lit (.int .u8 24), .lit (.int .u8 3), .lit (.int .u8 30), .lit (.int .u8 22), .lit (.int .u8 20), .lit (.int .u8 15), .lit (.int .u8 25), .lit (.int .u8 17), .lit (.int .u8 4), .lit (.int .u8 8), .lit (.int .u8 31), .lit (.int .u8 27), .lit (.int .u8 13), .lit (.int .u8 23), .lit (.int .u8 21), .lit (.int .u8 19), .lit (.int .u8 16), .lit (.int .u8 7), .lit (.int .u8 26), .lit (.int .u8 12), .lit (.int .u8 18), .lit (.int .u8 6), .lit (.int .u8 11), .lit (.int .u8 5), .lit (.int .u8 10), .lit (.int .u8 9)]
def laid_math_bits_deBruijn64tab {H : Type} : DataW H := .agg [.lit (.int .u8 0), .lit (.int .u8 1), .lit (.int .u8 56), .lit (.int .u8 2), .lit (.int .u8 57), .lit (.int .u8 49), .lit (.int .u8 28), .lit (.int .u8 3), .lit (.int .u8 61), .lit (.int .u8 58), .lit (.int .u8 42), .lit (.int .u8 50), .lit (.int .u8 38), .lit (.int .u8 29), .lit (.int .u8 17), .lit (.int .u8 4), .lit (.int .u8 62), .lit (.int .u8 47), .lit (.int .u8 59), .lit (.int .u8 36), .lit (.int .u8 45), .lit (.int .u8 43), .lit (.int .u8 51), .lit (.int .u8 22), .lit (.int .u8 53), .lit (.int .u8 39), .lit (.int .u8 33), .lit (.int .u8 30), .lit (.int .u8 24), .lit (.int .u8 18), .lit (.int .u8 12), .lit (.int .u8 5), .lit (.int .u8 63), .lit (.int .u8 55), .lit (.int .u8 48), .lit (.int .u8 27), .lit (.int .u8 60), .lit (.int .u8 41), .lit (.int .u8 37), .lit (.int .u8 16), .lit (.int .u8 46), .lit (.int .u8 35), .lit (.int .u8 44), .lit (.int .u8 21), .lit (.int .u8 52), .lit (.int .u8 32), .lit (.int .u8 23), .lit (.int .u8 11), .lit (.int .u8 54), .lit (.int .u8 26), .lit (.int .u8 40), .lit (.int .u8 15), .lit (.int .u8 34), .lit (.int .u8 20), .lit (.int .u8 31), .lit (.int .u8 10), .lit (.int .u8 25), .lit (.int .u8 14), .lit (.int .u8 19), .lit (.int .u8 9), .lit (.int .u8 13), .lit (.int .u8 8), .lit (.int .u8 7), .lit (.int .u8 6)]
def laid_internal_strconv_uint64pow10 {H : Type} : DataW H := .agg [.lit (.int .u64 1), .lit (.int .u64 10), .lit (.int .u64 100), .lit (.int .u64 1000), .lit (.int .u64 10000), .lit (.int .u64 100000), .lit (.int .u64 1000000), .lit (.int .u64 10000000), .lit (.int .u64 100000000), .lit (.int .u64 1000000000), .lit (.int .u64 10000000000), .lit (.int .u64 100000000000), .lit (.int .u64 1000000000000), .lit (.int .u64 10000000000000), .lit (.int .u64 100000000000000), .lit (.int .u64 1000000000000000), .lit (.int .u64 10000000000000000), .lit (.int .u64 100000000000000000), .lit (.int .u64 1000000000000000000), .lit (.int .u64 10000000000000000000)]

/-- 'laws.FnJValid': WHATEVER THE INPUT: true; the input reads as it did. -/
def fnJValidSpec : ChangeSpec := { name := "fnJValid", fn := fun _ => fun
  | [d1, d2] => { results := [.lit (.bool true)], args := [d1, d2] }
  | _ => none }
def fnJValidRow : OpenClaim := { program := "ytdakokhbeoohlaagreatdoor", sum := "486ea8a26ee03133fed12a449f8049fc9c2f5669132cb75edb6a42901b30eec3", func := "given.example/pub-querent/laws.FnJValid", spec := "fnJValid", inPlace := ["math.Float64bits", "math.Float64frombits"], unfollowed := true, recurses := true, named := ["internal/strconv.uint64pow10", "math/bits.deBruijn32tab", "math/bits.deBruijn64tab"], loops := true, apart := false, laid := [("math/bits.deBruijn32tab", laid_math_bits_deBruijn32tab), ("math/bits.deBruijn64tab", laid_math_bits_deBruijn64tab), ("internal/strconv.uint64pow10", laid_internal_strconv_uint64pow10)] }
def FnJValidSaid : Prop := fnJValidRow.holds Tryz.pinned (OpenSpec.ofChange fnJValidSpec)

/-- ITS FALSE NEIGHBOUR: 'it returns false'. Refute it at one input. -/
def fnJValidWrong : ChangeSpec := { name := "fnJValid", fn := fun _ => fun
  | [d1, d2] => { results := [.lit (.bool false)], args := [d1, d2] }
  | _ => none }
def FnJValidWrongFalsely : Prop := fnJValidRow.holds Tryz.pinned (OpenSpec.ofChange fnJValidWrong)

/-- 'laws.FnJNot': WHATEVER THE INPUT: true; the input reads as it did. -/
def fnJNotSpec : ChangeSpec := { name := "fnJNot", fn := fun _ => fun
  | [d1, d2] => { results := [.lit (.bool true)], args := [d1, d2] }
  | _ => none }
def fnJNotRow : OpenClaim := { program := "ytdakokhbeoohlaagreatdoor", sum := "486ea8a26ee03133fed12a449f8049fc9c2f5669132cb75edb6a42901b30eec3", func := "given.example/pub-querent/laws.FnJNot", spec := "fnJNot", inPlace := ["math.Float64bits", "math.Float64frombits"], unfollowed := true, recurses := true, named := ["internal/strconv.uint64pow10", "math/bits.deBruijn32tab", "math/bits.deBruijn64tab"], loops := true, apart := false, laid := [("math/bits.deBruijn32tab", laid_math_bits_deBruijn32tab), ("math/bits.deBruijn64tab", laid_math_bits_deBruijn64tab), ("internal/strconv.uint64pow10", laid_internal_strconv_uint64pow10)] }
def FnJNotSaid : Prop := fnJNotRow.holds Tryz.pinned (OpenSpec.ofChange fnJNotSpec)

/-- ITS FALSE NEIGHBOUR: 'it returns false'. Refute it at one input. -/
def fnJNotWrong : ChangeSpec := { name := "fnJNot", fn := fun _ => fun
  | [d1, d2] => { results := [.lit (.bool false)], args := [d1, d2] }
  | _ => none }
def FnJNotWrongFalsely : Prop := fnJNotRow.holds Tryz.pinned (OpenSpec.ofChange fnJNotWrong)

/-- 'laws.FnJAll': WHATEVER THE INPUT: true; the input reads as it did. -/
def fnJAllSpec : ChangeSpec := { name := "fnJAll", fn := fun _ => fun
  | [d1, d2] => { results := [.lit (.bool true)], args := [d1, d2] }
  | _ => none }
def fnJAllRow : OpenClaim := { program := "ytdakokhbeoohlaagreatdoor", sum := "486ea8a26ee03133fed12a449f8049fc9c2f5669132cb75edb6a42901b30eec3", func := "given.example/pub-querent/laws.FnJAll", spec := "fnJAll", inPlace := ["math.Float64bits", "math.Float64frombits"], unfollowed := true, recurses := true, named := ["internal/strconv.uint64pow10", "math/bits.deBruijn32tab", "math/bits.deBruijn64tab"], loops := true, apart := false, laid := [("math/bits.deBruijn32tab", laid_math_bits_deBruijn32tab), ("math/bits.deBruijn64tab", laid_math_bits_deBruijn64tab), ("internal/strconv.uint64pow10", laid_internal_strconv_uint64pow10)] }
def FnJAllSaid : Prop := fnJAllRow.holds Tryz.pinned (OpenSpec.ofChange fnJAllSpec)

/-- ITS FALSE NEIGHBOUR: 'it returns false'. Refute it at one input. -/
def fnJAllWrong : ChangeSpec := { name := "fnJAll", fn := fun _ => fun
  | [d1, d2] => { results := [.lit (.bool false)], args := [d1, d2] }
  | _ => none }
def FnJAllWrongFalsely : Prop := fnJAllRow.holds Tryz.pinned (OpenSpec.ofChange fnJAllWrong)

/-- 'laws.FnJIf': WHATEVER THE INPUT: true; the input reads as it did. -/
def fnJIfSpec : ChangeSpec := { name := "fnJIf", fn := fun _ => fun
  | [d1, d2, d3, d4] => { results := [.lit (.bool true)], args := [d1, d2, d3, d4] }
  | _ => none }
def fnJIfRow : OpenClaim := { program := "ytdakokhbeoohlaagreatdoor", sum := "486ea8a26ee03133fed12a449f8049fc9c2f5669132cb75edb6a42901b30eec3", func := "given.example/pub-querent/laws.FnJIf", spec := "fnJIf", inPlace := ["math.Float64bits", "math.Float64frombits"], unfollowed := true, recurses := true, named := ["internal/strconv.uint64pow10", "math/bits.deBruijn32tab", "math/bits.deBruijn64tab"], loops := true, apart := false, laid := [("math/bits.deBruijn32tab", laid_math_bits_deBruijn32tab), ("math/bits.deBruijn64tab", laid_math_bits_deBruijn64tab), ("internal/strconv.uint64pow10", laid_internal_strconv_uint64pow10)] }
def FnJIfSaid : Prop := fnJIfRow.holds Tryz.pinned (OpenSpec.ofChange fnJIfSpec)

/-- ITS FALSE NEIGHBOUR: 'it returns false'. Refute it at one input. -/
def fnJIfWrong : ChangeSpec := { name := "fnJIf", fn := fun _ => fun
  | [d1, d2, d3, d4] => { results := [.lit (.bool false)], args := [d1, d2, d3, d4] }
  | _ => none }
def FnJIfWrongFalsely : Prop := fnJIfRow.holds Tryz.pinned (OpenSpec.ofChange fnJIfWrong)

/-- 'laws.FnJRef': WHATEVER THE INPUT: true; the input reads as it did. -/
def fnJRefSpec : ChangeSpec := { name := "fnJRef", fn := fun _ => fun
  | [d1, d2] => { results := [.lit (.bool true)], args := [d1, d2] }
  | _ => none }
def fnJRefRow : OpenClaim := { program := "ytdakokhbeoohlaagreatdoor", sum := "486ea8a26ee03133fed12a449f8049fc9c2f5669132cb75edb6a42901b30eec3", func := "given.example/pub-querent/laws.FnJRef", spec := "fnJRef", inPlace := ["math.Float64bits", "math.Float64frombits"], unfollowed := true, recurses := true, named := ["internal/strconv.uint64pow10", "math/bits.deBruijn32tab", "math/bits.deBruijn64tab"], loops := true, apart := false, laid := [("math/bits.deBruijn32tab", laid_math_bits_deBruijn32tab), ("math/bits.deBruijn64tab", laid_math_bits_deBruijn64tab), ("internal/strconv.uint64pow10", laid_internal_strconv_uint64pow10)] }
def FnJRefSaid : Prop := fnJRefRow.holds Tryz.pinned (OpenSpec.ofChange fnJRefSpec)

/-- ITS FALSE NEIGHBOUR: 'it returns false'. Refute it at one input. -/
def fnJRefWrong : ChangeSpec := { name := "fnJRef", fn := fun _ => fun
  | [d1, d2] => { results := [.lit (.bool false)], args := [d1, d2] }
  | _ => none }
def FnJRefWrongFalsely : Prop := fnJRefRow.holds Tryz.pinned (OpenSpec.ofChange fnJRefWrong)

/-- 'laws.FnJMorgan': WHATEVER THE INPUT: true; the input reads as it did. -/
def fnJMorganSpec : ChangeSpec := { name := "fnJMorgan", fn := fun _ => fun
  | [d1, d2, d3] => { results := [.lit (.bool true)], args := [d1, d2, d3] }
  | _ => none }
def fnJMorganRow : OpenClaim := { program := "ytdakokhbeoohlaagreatdoor", sum := "486ea8a26ee03133fed12a449f8049fc9c2f5669132cb75edb6a42901b30eec3", func := "given.example/pub-querent/laws.FnJMorgan", spec := "fnJMorgan", inPlace := ["math.Float64bits", "math.Float64frombits"], unfollowed := true, recurses := true, named := ["internal/strconv.uint64pow10", "math/bits.deBruijn32tab", "math/bits.deBruijn64tab"], loops := true, apart := false, laid := [("math/bits.deBruijn32tab", laid_math_bits_deBruijn32tab), ("math/bits.deBruijn64tab", laid_math_bits_deBruijn64tab), ("internal/strconv.uint64pow10", laid_internal_strconv_uint64pow10)] }
def FnJMorganSaid : Prop := fnJMorganRow.holds Tryz.pinned (OpenSpec.ofChange fnJMorganSpec)

/-- ITS FALSE NEIGHBOUR: 'it returns false'. Refute it at one input. -/
def fnJMorganWrong : ChangeSpec := { name := "fnJMorgan", fn := fun _ => fun
  | [d1, d2, d3] => { results := [.lit (.bool false)], args := [d1, d2, d3] }
  | _ => none }
def FnJMorganWrongFalsely : Prop := fnJMorganRow.holds Tryz.pinned (OpenSpec.ofChange fnJMorganWrong)

/-- 'laws.FnJEither': WHATEVER THE INPUT: true; the input reads as it did. -/
def fnJEitherSpec : ChangeSpec := { name := "fnJEither", fn := fun _ => fun
  | [d1, d2, d3] => { results := [.lit (.bool true)], args := [d1, d2, d3] }
  | _ => none }
def fnJEitherRow : OpenClaim := { program := "ytdakokhbeoohlaagreatdoor", sum := "486ea8a26ee03133fed12a449f8049fc9c2f5669132cb75edb6a42901b30eec3", func := "given.example/pub-querent/laws.FnJEither", spec := "fnJEither", inPlace := ["math.Float64bits", "math.Float64frombits"], unfollowed := true, recurses := true, named := ["internal/strconv.uint64pow10", "math/bits.deBruijn32tab", "math/bits.deBruijn64tab"], loops := true, apart := false, laid := [("math/bits.deBruijn32tab", laid_math_bits_deBruijn32tab), ("math/bits.deBruijn64tab", laid_math_bits_deBruijn64tab), ("internal/strconv.uint64pow10", laid_internal_strconv_uint64pow10)] }
def FnJEitherSaid : Prop := fnJEitherRow.holds Tryz.pinned (OpenSpec.ofChange fnJEitherSpec)

/-- ITS FALSE NEIGHBOUR: 'it returns false'. Refute it at one input. -/
def fnJEitherWrong : ChangeSpec := { name := "fnJEither", fn := fun _ => fun
  | [d1, d2, d3] => { results := [.lit (.bool false)], args := [d1, d2, d3] }
  | _ => none }
def FnJEitherWrongFalsely : Prop := fnJEitherRow.holds Tryz.pinned (OpenSpec.ofChange fnJEitherWrong)

/-- 'laws.FnJDistribute': WHATEVER THE INPUT: true; the input reads as it did. -/
def fnJDistributeSpec : ChangeSpec := { name := "fnJDistribute", fn := fun _ => fun
  | [d1, d2, d3, d4] => { results := [.lit (.bool true)], args := [d1, d2, d3, d4] }
  | _ => none }
def fnJDistributeRow : OpenClaim := { program := "ytdakokhbeoohlaagreatdoor", sum := "486ea8a26ee03133fed12a449f8049fc9c2f5669132cb75edb6a42901b30eec3", func := "given.example/pub-querent/laws.FnJDistribute", spec := "fnJDistribute", inPlace := ["math.Float64bits", "math.Float64frombits"], unfollowed := true, recurses := true, named := ["internal/strconv.uint64pow10", "math/bits.deBruijn32tab", "math/bits.deBruijn64tab"], loops := true, apart := false, laid := [("math/bits.deBruijn32tab", laid_math_bits_deBruijn32tab), ("math/bits.deBruijn64tab", laid_math_bits_deBruijn64tab), ("internal/strconv.uint64pow10", laid_internal_strconv_uint64pow10)] }
def FnJDistributeSaid : Prop := fnJDistributeRow.holds Tryz.pinned (OpenSpec.ofChange fnJDistributeSpec)

/-- ITS FALSE NEIGHBOUR: 'it returns false'. Refute it at one input. -/
def fnJDistributeWrong : ChangeSpec := { name := "fnJDistribute", fn := fun _ => fun
  | [d1, d2, d3, d4] => { results := [.lit (.bool false)], args := [d1, d2, d3, d4] }
  | _ => none }
def FnJDistributeWrongFalsely : Prop := fnJDistributeRow.holds Tryz.pinned (OpenSpec.ofChange fnJDistributeWrong)

/-- 'laws.FnJChoice': WHATEVER THE INPUT: true; the input reads as it did. -/
def fnJChoiceSpec : ChangeSpec := { name := "fnJChoice", fn := fun _ => fun
  | [d1, d2, d3, d4] => { results := [.lit (.bool true)], args := [d1, d2, d3, d4] }
  | _ => none }
def fnJChoiceRow : OpenClaim := { program := "ytdakokhbeoohlaagreatdoor", sum := "486ea8a26ee03133fed12a449f8049fc9c2f5669132cb75edb6a42901b30eec3", func := "given.example/pub-querent/laws.FnJChoice", spec := "fnJChoice", inPlace := ["math.Float64bits", "math.Float64frombits"], unfollowed := true, recurses := true, named := ["internal/strconv.uint64pow10", "math/bits.deBruijn32tab", "math/bits.deBruijn64tab"], loops := true, apart := false, laid := [("math/bits.deBruijn32tab", laid_math_bits_deBruijn32tab), ("math/bits.deBruijn64tab", laid_math_bits_deBruijn64tab), ("internal/strconv.uint64pow10", laid_internal_strconv_uint64pow10)] }
def FnJChoiceSaid : Prop := fnJChoiceRow.holds Tryz.pinned (OpenSpec.ofChange fnJChoiceSpec)

/-- ITS FALSE NEIGHBOUR: 'it returns false'. Refute it at one input. -/
def fnJChoiceWrong : ChangeSpec := { name := "fnJChoice", fn := fun _ => fun
  | [d1, d2, d3, d4] => { results := [.lit (.bool false)], args := [d1, d2, d3, d4] }
  | _ => none }
def FnJChoiceWrongFalsely : Prop := fnJChoiceRow.holds Tryz.pinned (OpenSpec.ofChange fnJChoiceWrong)

/-- 'laws.FnJBehind': WHATEVER THE INPUT: true; the input reads as it did. -/
def fnJBehindSpec : ChangeSpec := { name := "fnJBehind", fn := fun _ => fun
  | [d1, d2, d3] => { results := [.lit (.bool true)], args := [d1, d2, d3] }
  | _ => none }
def fnJBehindRow : OpenClaim := { program := "ytdakokhbeoohlaagreatdoor", sum := "486ea8a26ee03133fed12a449f8049fc9c2f5669132cb75edb6a42901b30eec3", func := "given.example/pub-querent/laws.FnJBehind", spec := "fnJBehind", inPlace := ["math.Float64bits", "math.Float64frombits"], unfollowed := true, recurses := true, named := ["internal/strconv.uint64pow10", "math/bits.deBruijn32tab", "math/bits.deBruijn64tab"], loops := true, apart := false, laid := [("math/bits.deBruijn32tab", laid_math_bits_deBruijn32tab), ("math/bits.deBruijn64tab", laid_math_bits_deBruijn64tab), ("internal/strconv.uint64pow10", laid_internal_strconv_uint64pow10)] }
def FnJBehindSaid : Prop := fnJBehindRow.holds Tryz.pinned (OpenSpec.ofChange fnJBehindSpec)

/-- ITS FALSE NEIGHBOUR: 'it returns false'. Refute it at one input. -/
def fnJBehindWrong : ChangeSpec := { name := "fnJBehind", fn := fun _ => fun
  | [d1, d2, d3] => { results := [.lit (.bool false)], args := [d1, d2, d3] }
  | _ => none }
def FnJBehindWrongFalsely : Prop := fnJBehindRow.holds Tryz.pinned (OpenSpec.ofChange fnJBehindWrong)

/- THE SECOND FORM. 'bulk': how many values and letters a reading holds, each counted each time it is reached (what is shared counts as often as it is met; a slice's spare places count too). A statement '..UptoSaid' is the law's where the arguments, and the package variables that the reading takes, are together of bulk at most 1048576: NARROWER than '..Said'. Prove '..Said' where nothing that the law and all that it calls make is longer than what came in: it says more and counts as full. Else prove '..UptoSaid'. A law counts once. -/
mutual
def uptoBulk {H : Type} : DataW H → Nat
  | .lit (.string bytes) => bytes.length + 1
  | .lit _ => 1
  | .nil => 1
  | .ptr d => uptoBulk d + 1
  | .slice elems spare => uptoBulkAll elems + uptoBulkAll spare + 1
  | .agg parts => uptoBulkAll parts + 1
  | .iface _ d => uptoBulk d + 1
  | .map entries => uptoBulkEntries entries + 1
  | .held _ => 1
def uptoBulkAll {H : Type} : List (DataW H) → Nat
  | [] => 0
  | d :: r => uptoBulk d + uptoBulkAll r
def uptoBulkEntries {H : Type} : List (Lit × DataW H) → Nat
  | [] => 0
  | x :: r => uptoBulkEntry x + uptoBulkEntries r
def uptoBulkEntry {H : Type} : Lit × DataW H → Nat
  | (.string bytes, d) => bytes.length + uptoBulk d + 1
  | (_, d) => uptoBulk d + 1
 end
def uptoSmall : (H : Type) → List (DataW H) → Bool := fun _ ds => decide (uptoBulkAll ds ≤ 1048576)
def OpenSpec.upto (s : _root_.Go.ChangeSpec) : _root_.Go.OpenSpec := { _root_.Go.OpenSpec.ofChange s with cond := some uptoSmall }

/-- 'laws.FnJValid', WHERE WHAT IT READS IS OF BULK AT MOST 1048576: true; the input reads as it did. -/
def fnJValidUptoRow : OpenClaim := { program := "ytdakokhbeoohlaagreatdoor", sum := "486ea8a26ee03133fed12a449f8049fc9c2f5669132cb75edb6a42901b30eec3", func := "given.example/pub-querent/laws.FnJValid", spec := "fnJValid", inPlace := ["math.Float64bits", "math.Float64frombits"], unfollowed := true, recurses := true, named := ["internal/strconv.uint64pow10", "math/bits.deBruijn32tab", "math/bits.deBruijn64tab"], loops := true, apart := false, laid := [("math/bits.deBruijn32tab", laid_math_bits_deBruijn32tab), ("math/bits.deBruijn64tab", laid_math_bits_deBruijn64tab), ("internal/strconv.uint64pow10", laid_internal_strconv_uint64pow10)], narrowed := true }
def FnJValidUptoSaid : Prop := fnJValidUptoRow.holds Tryz.pinned (OpenSpec.upto fnJValidSpec)

/-- 'laws.FnJNot', WHERE WHAT IT READS IS OF BULK AT MOST 1048576: true; the input reads as it did. -/
def fnJNotUptoRow : OpenClaim := { program := "ytdakokhbeoohlaagreatdoor", sum := "486ea8a26ee03133fed12a449f8049fc9c2f5669132cb75edb6a42901b30eec3", func := "given.example/pub-querent/laws.FnJNot", spec := "fnJNot", inPlace := ["math.Float64bits", "math.Float64frombits"], unfollowed := true, recurses := true, named := ["internal/strconv.uint64pow10", "math/bits.deBruijn32tab", "math/bits.deBruijn64tab"], loops := true, apart := false, laid := [("math/bits.deBruijn32tab", laid_math_bits_deBruijn32tab), ("math/bits.deBruijn64tab", laid_math_bits_deBruijn64tab), ("internal/strconv.uint64pow10", laid_internal_strconv_uint64pow10)], narrowed := true }
def FnJNotUptoSaid : Prop := fnJNotUptoRow.holds Tryz.pinned (OpenSpec.upto fnJNotSpec)

/-- 'laws.FnJAll', WHERE WHAT IT READS IS OF BULK AT MOST 1048576: true; the input reads as it did. -/
def fnJAllUptoRow : OpenClaim := { program := "ytdakokhbeoohlaagreatdoor", sum := "486ea8a26ee03133fed12a449f8049fc9c2f5669132cb75edb6a42901b30eec3", func := "given.example/pub-querent/laws.FnJAll", spec := "fnJAll", inPlace := ["math.Float64bits", "math.Float64frombits"], unfollowed := true, recurses := true, named := ["internal/strconv.uint64pow10", "math/bits.deBruijn32tab", "math/bits.deBruijn64tab"], loops := true, apart := false, laid := [("math/bits.deBruijn32tab", laid_math_bits_deBruijn32tab), ("math/bits.deBruijn64tab", laid_math_bits_deBruijn64tab), ("internal/strconv.uint64pow10", laid_internal_strconv_uint64pow10)], narrowed := true }
def FnJAllUptoSaid : Prop := fnJAllUptoRow.holds Tryz.pinned (OpenSpec.upto fnJAllSpec)

/-- 'laws.FnJIf', WHERE WHAT IT READS IS OF BULK AT MOST 1048576: true; the input reads as it did. -/
def fnJIfUptoRow : OpenClaim := { program := "ytdakokhbeoohlaagreatdoor", sum := "486ea8a26ee03133fed12a449f8049fc9c2f5669132cb75edb6a42901b30eec3", func := "given.example/pub-querent/laws.FnJIf", spec := "fnJIf", inPlace := ["math.Float64bits", "math.Float64frombits"], unfollowed := true, recurses := true, named := ["internal/strconv.uint64pow10", "math/bits.deBruijn32tab", "math/bits.deBruijn64tab"], loops := true, apart := false, laid := [("math/bits.deBruijn32tab", laid_math_bits_deBruijn32tab), ("math/bits.deBruijn64tab", laid_math_bits_deBruijn64tab), ("internal/strconv.uint64pow10", laid_internal_strconv_uint64pow10)], narrowed := true }
def FnJIfUptoSaid : Prop := fnJIfUptoRow.holds Tryz.pinned (OpenSpec.upto fnJIfSpec)

/-- 'laws.FnJRef', WHERE WHAT IT READS IS OF BULK AT MOST 1048576: true; the input reads as it did. -/
def fnJRefUptoRow : OpenClaim := { program := "ytdakokhbeoohlaagreatdoor", sum := "486ea8a26ee03133fed12a449f8049fc9c2f5669132cb75edb6a42901b30eec3", func := "given.example/pub-querent/laws.FnJRef", spec := "fnJRef", inPlace := ["math.Float64bits", "math.Float64frombits"], unfollowed := true, recurses := true, named := ["internal/strconv.uint64pow10", "math/bits.deBruijn32tab", "math/bits.deBruijn64tab"], loops := true, apart := false, laid := [("math/bits.deBruijn32tab", laid_math_bits_deBruijn32tab), ("math/bits.deBruijn64tab", laid_math_bits_deBruijn64tab), ("internal/strconv.uint64pow10", laid_internal_strconv_uint64pow10)], narrowed := true }
def FnJRefUptoSaid : Prop := fnJRefUptoRow.holds Tryz.pinned (OpenSpec.upto fnJRefSpec)

/-- 'laws.FnJMorgan', WHERE WHAT IT READS IS OF BULK AT MOST 1048576: true; the input reads as it did. -/
def fnJMorganUptoRow : OpenClaim := { program := "ytdakokhbeoohlaagreatdoor", sum := "486ea8a26ee03133fed12a449f8049fc9c2f5669132cb75edb6a42901b30eec3", func := "given.example/pub-querent/laws.FnJMorgan", spec := "fnJMorgan", inPlace := ["math.Float64bits", "math.Float64frombits"], unfollowed := true, recurses := true, named := ["internal/strconv.uint64pow10", "math/bits.deBruijn32tab", "math/bits.deBruijn64tab"], loops := true, apart := false, laid := [("math/bits.deBruijn32tab", laid_math_bits_deBruijn32tab), ("math/bits.deBruijn64tab", laid_math_bits_deBruijn64tab), ("internal/strconv.uint64pow10", laid_internal_strconv_uint64pow10)], narrowed := true }
def FnJMorganUptoSaid : Prop := fnJMorganUptoRow.holds Tryz.pinned (OpenSpec.upto fnJMorganSpec)

/-- 'laws.FnJEither', WHERE WHAT IT READS IS OF BULK AT MOST 1048576: true; the input reads as it did. -/
def fnJEitherUptoRow : OpenClaim := { program := "ytdakokhbeoohlaagreatdoor", sum := "486ea8a26ee03133fed12a449f8049fc9c2f5669132cb75edb6a42901b30eec3", func := "given.example/pub-querent/laws.FnJEither", spec := "fnJEither", inPlace := ["math.Float64bits", "math.Float64frombits"], unfollowed := true, recurses := true, named := ["internal/strconv.uint64pow10", "math/bits.deBruijn32tab", "math/bits.deBruijn64tab"], loops := true, apart := false, laid := [("math/bits.deBruijn32tab", laid_math_bits_deBruijn32tab), ("math/bits.deBruijn64tab", laid_math_bits_deBruijn64tab), ("internal/strconv.uint64pow10", laid_internal_strconv_uint64pow10)], narrowed := true }
def FnJEitherUptoSaid : Prop := fnJEitherUptoRow.holds Tryz.pinned (OpenSpec.upto fnJEitherSpec)

/-- 'laws.FnJDistribute', WHERE WHAT IT READS IS OF BULK AT MOST 1048576: true; the input reads as it did. -/
def fnJDistributeUptoRow : OpenClaim := { program := "ytdakokhbeoohlaagreatdoor", sum := "486ea8a26ee03133fed12a449f8049fc9c2f5669132cb75edb6a42901b30eec3", func := "given.example/pub-querent/laws.FnJDistribute", spec := "fnJDistribute", inPlace := ["math.Float64bits", "math.Float64frombits"], unfollowed := true, recurses := true, named := ["internal/strconv.uint64pow10", "math/bits.deBruijn32tab", "math/bits.deBruijn64tab"], loops := true, apart := false, laid := [("math/bits.deBruijn32tab", laid_math_bits_deBruijn32tab), ("math/bits.deBruijn64tab", laid_math_bits_deBruijn64tab), ("internal/strconv.uint64pow10", laid_internal_strconv_uint64pow10)], narrowed := true }
def FnJDistributeUptoSaid : Prop := fnJDistributeUptoRow.holds Tryz.pinned (OpenSpec.upto fnJDistributeSpec)

/-- 'laws.FnJChoice', WHERE WHAT IT READS IS OF BULK AT MOST 1048576: true; the input reads as it did. -/
def fnJChoiceUptoRow : OpenClaim := { program := "ytdakokhbeoohlaagreatdoor", sum := "486ea8a26ee03133fed12a449f8049fc9c2f5669132cb75edb6a42901b30eec3", func := "given.example/pub-querent/laws.FnJChoice", spec := "fnJChoice", inPlace := ["math.Float64bits", "math.Float64frombits"], unfollowed := true, recurses := true, named := ["internal/strconv.uint64pow10", "math/bits.deBruijn32tab", "math/bits.deBruijn64tab"], loops := true, apart := false, laid := [("math/bits.deBruijn32tab", laid_math_bits_deBruijn32tab), ("math/bits.deBruijn64tab", laid_math_bits_deBruijn64tab), ("internal/strconv.uint64pow10", laid_internal_strconv_uint64pow10)], narrowed := true }
def FnJChoiceUptoSaid : Prop := fnJChoiceUptoRow.holds Tryz.pinned (OpenSpec.upto fnJChoiceSpec)

/-- 'laws.FnJBehind', WHERE WHAT IT READS IS OF BULK AT MOST 1048576: true; the input reads as it did. -/
def fnJBehindUptoRow : OpenClaim := { program := "ytdakokhbeoohlaagreatdoor", sum := "486ea8a26ee03133fed12a449f8049fc9c2f5669132cb75edb6a42901b30eec3", func := "given.example/pub-querent/laws.FnJBehind", spec := "fnJBehind", inPlace := ["math.Float64bits", "math.Float64frombits"], unfollowed := true, recurses := true, named := ["internal/strconv.uint64pow10", "math/bits.deBruijn32tab", "math/bits.deBruijn64tab"], loops := true, apart := false, laid := [("math/bits.deBruijn32tab", laid_math_bits_deBruijn32tab), ("math/bits.deBruijn64tab", laid_math_bits_deBruijn64tab), ("internal/strconv.uint64pow10", laid_internal_strconv_uint64pow10)], narrowed := true }
def FnJBehindUptoSaid : Prop := fnJBehindUptoRow.holds Tryz.pinned (OpenSpec.upto fnJBehindSpec)

end Rows
end Go.Proofs.YtdakokhbeoohlaaGreatDoor
