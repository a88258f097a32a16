/- Closed facts of the row of laws.FnIxStop: what is in place, what is not followed. (A part of the proof of this: for every input laws.FnIxStop returns true and its arguments read as they did, the listed package variables being what the program lays.) -/
import Derived.Test.YtochgglejmfelaaGreatDoorRows
import Derived.JoinedOf
namespace Go.Proofs.YtochgglejmfelaaGreatDoor
open Go
set_option maxRecDepth 100000
theorem stop_inPlace : (Rows.fnIxStopRow.inPlace == Tryz.prog.inPlace 3) = true := by kernel_rfl
theorem stop_unfollowed : (Rows.fnIxStopRow.unfollowed == Tryz.prog.unfollowed 3) = true := by kernel_rfl
end Go.Proofs.YtochgglejmfelaaGreatDoor
