/- Closed facts of the row of laws.FnIxCut, part 2. -/
import Derived.Test.YtochgglejmfelaaGreatDoorRows
import Derived.JoinedOf
namespace Go.Proofs.YtochgglejmfelaaGreatDoor
open Go
set_option maxRecDepth 100000
theorem cut_recurses : (Rows.fnIxCutRow.recurses == Tryz.prog.recurses 4) = true := by kernel_rfl
theorem cut_named : (Rows.fnIxCutRow.named == Tryz.prog.varsNamed 4) = true := by kernel_rfl
end Go.Proofs.YtochgglejmfelaaGreatDoor
