/- Closed facts of the row of laws.FnIxRead: what is in place, what is not followed. (A part of the proof of this: for every input laws.FnIxRead returns true and its arguments read as they did, the listed package variables being what the program lays.) -/
import Derived.Test.YtochgglejmfelaaGreatDoorRows
import Derived.JoinedOf
namespace Go.Proofs.YtochgglejmfelaaGreatDoor
open Go
set_option maxRecDepth 100000
theorem read_inPlace : (Rows.fnIxReadRow.inPlace == Tryz.prog.inPlace 5) = true := by kernel_rfl
theorem read_unfollowed : (Rows.fnIxReadRow.unfollowed == Tryz.prog.unfollowed 5) = true := by kernel_rfl
end Go.Proofs.YtochgglejmfelaaGreatDoor
