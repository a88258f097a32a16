/- Closed facts of the row of laws.FnIxCut, part 1. -/
import Derived.Test.YtochgglejmfelaaGreatDoorRows
import Derived.JoinedOf
namespace Go.Proofs.YtochgglejmfelaaGreatDoor
open Go
set_option maxRecDepth 100000
theorem cut_inPlace : (Rows.fnIxCutRow.inPlace == Tryz.prog.inPlace 4) = true := by kernel_rfl
theorem cut_unfollowed : (Rows.fnIxCutRow.unfollowed == Tryz.prog.unfollowed 4) = true := by kernel_rfl
end Go.Proofs.YtochgglejmfelaaGreatDoor
