/- Closed facts of the program: its text is laid out. (A part of the proof of this: for every input laws.FnWrOptions returns true and its arguments read as they did, the listed package variables being what the program lays) -/
import Derived.Test.YtochgglejmfelaaGreatDoorRows
import Derived.JoinedOf
set_option linter.unusedVariables false
set_option linter.unusedSimpArgs false
namespace Go.Proofs.YtochgglejmfelaaGreatDoor
open Go
set_option maxRecDepth 100000
theorem row_laidOut : laidOutB Tryz.prog = true := by kernel_rfl
end Go.Proofs.YtochgglejmfelaaGreatDoor
