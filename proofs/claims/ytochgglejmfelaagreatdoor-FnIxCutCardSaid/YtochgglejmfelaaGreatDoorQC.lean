/- Closed facts of the row of laws.FnIxCut, together. -/
import Derived.Test.YtochgglejmfelaaGreatDoorQA
import Derived.Test.YtochgglejmfelaaGreatDoorQB
namespace Go.Proofs.YtochgglejmfelaaGreatDoor
open Go
set_option maxRecDepth 100000
theorem cut_closed : joinedFacts Tryz.prog 4 Tryz.f4 Rows.fnIxCutSpec Rows.fnIxCutRow = true := by
  unfold joinedFacts
  rw [cut_inPlace, cut_unfollowed, cut_recurses, cut_named]
  kernel_rfl
end Go.Proofs.YtochgglejmfelaaGreatDoor
