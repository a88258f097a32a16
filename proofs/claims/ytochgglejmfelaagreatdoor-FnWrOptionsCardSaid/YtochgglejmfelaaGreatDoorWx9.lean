/- Closed facts of the program: what may be entered, what is lifted last. (A part of the proof of this: for every input laws.FnWrOptions returns true and its arguments read as they did, the listed package variables being what the program lays) -/
import Derived.Test.YtochgglejmfelaaGreatDoorRows
import Derived.JoinedOf
set_option linter.unusedVariables false
set_option linter.unusedSimpArgs false
namespace Go.Proofs.YtochgglejmfelaaGreatDoor
open Go
set_option maxRecDepth 100000
theorem row_may : Tryz.prog.mayEnter = true := by kernel_rfl
theorem row_lifts : (Rows.fnWrOptionsRow.lifted == Tryz.prog.liftsFinal) = true := by kernel_rfl
end Go.Proofs.YtochgglejmfelaaGreatDoor
