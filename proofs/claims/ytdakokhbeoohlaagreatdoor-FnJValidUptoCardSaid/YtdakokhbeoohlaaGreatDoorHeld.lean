/- Part of the proof of a law of a rule over documents (Held), where what the arguments hold is of bulk at most 1048576. -/
import Derived.Test.YtdakokhbeoohlaaGreatDoorRows
import Derived.ProofKit
import Derived.JoinedCond
set_option linter.unusedVariables false
namespace Go.Proofs.YtdakokhbeoohlaaGreatDoor
open Go
theorem g1:(laidOutB Tryz.pinned.checked.prog)=true:=by kernel_rfl
theorem g2:(mapsRowed Tryz.pinned.checked.prog)=true:=by kernel_rfl
theorem g6:(Tryz.pinned.checked.prog.stops==[])=true:=by kernel_rfl
theorem g8:(Tryz.pinned.checked.prog.stopKnobs==[])=true:=by kernel_rfl
theorem g24:(Tryz.pinned.checked.prog.stopsHeard)=true:=by kernel_rfl
theorem g25:(Tryz.pinned.checked.prog.mayEnter)=true:=by kernel_rfl
end Go.Proofs.YtdakokhbeoohlaaGreatDoor
