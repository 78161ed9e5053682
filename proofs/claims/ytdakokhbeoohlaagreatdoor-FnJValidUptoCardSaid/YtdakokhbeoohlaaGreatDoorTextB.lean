/- Part of the proof of a law of a rule over documents (TextB), where what the arguments hold is of bulk at most 1048576. -/
import Derived.Test.YtdakokhbeoohlaaGreatDoorBaseB
set_option linter.unusedVariables false
namespace Go.VC
open Go Go.Proofs
set_option maxRecDepth 100000
end Go.VC
