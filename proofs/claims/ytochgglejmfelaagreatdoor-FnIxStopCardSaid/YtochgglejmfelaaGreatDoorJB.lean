/- Closed facts of the row of laws.FnIxStop: whether it recurses, which variables it names. (A part of the proof of this: for every input laws.FnIxStop returns true and its arguments read as they did, the listed package variables being what the program lays.) -/
import Derived.Test.YtochgglejmfelaaGreatDoorRows
import Derived.JoinedOf
namespace Go.Proofs.YtochgglejmfelaaGreatDoor
open Go
set_option maxRecDepth 100000
theorem stop_recurses : (Rows.fnIxStopRow.recurses == Tryz.prog.recurses 3) = true := by kernel_rfl
theorem stop_named : (Rows.fnIxStopRow.named == Tryz.prog.varsNamed 3) = true := by kernel_rfl
end Go.Proofs.YtochgglejmfelaaGreatDoor
