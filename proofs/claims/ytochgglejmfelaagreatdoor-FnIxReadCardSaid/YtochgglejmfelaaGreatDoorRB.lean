/- Closed facts of the row of laws.FnIxRead: whether it recurses, which variables it names. (A part of the proof of this: for every input laws.FnIxRead returns true and its arguments read as they did, the listed package variables being what the program lays.) -/
import Derived.Test.YtochgglejmfelaaGreatDoorRows
import Derived.JoinedOf
namespace Go.Proofs.YtochgglejmfelaaGreatDoor
open Go
set_option maxRecDepth 100000
theorem read_recurses : (Rows.fnIxReadRow.recurses == Tryz.prog.recurses 5) = true := by kernel_rfl
theorem read_named : (Rows.fnIxReadRow.named == Tryz.prog.varsNamed 5) = true := by kernel_rfl
end Go.Proofs.YtochgglejmfelaaGreatDoor
