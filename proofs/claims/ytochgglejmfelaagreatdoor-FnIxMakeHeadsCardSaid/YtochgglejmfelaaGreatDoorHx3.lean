/- The closed facts of the row of laws.FnIxMakeHeads. (A part of the proof of this: for every input laws.FnIxMakeHeads returns true and its arguments read as they did, the listed package variables being what the program lays) -/
import Derived.Test.YtochgglejmfelaaGreatDoorHx1
import Derived.Test.YtochgglejmfelaaGreatDoorHx2
import Derived.Test.YtochgglejmfelaaGreatDoorHx8
import Derived.Test.YtochgglejmfelaaGreatDoorHx9
import Derived.Test.YtochgglejmfelaaGreatDoorHx0
set_option linter.unusedVariables false
set_option linter.unusedSimpArgs false
namespace Go.Proofs.YtochgglejmfelaaGreatDoor
open Go
set_option maxRecDepth 100000
theorem row_closed : joinedFacts Tryz.prog 6 Tryz.f6 Rows.fnIxMakeHeadsSpec Rows.fnIxMakeHeadsRow = true := by
  unfold joinedFacts
  rw [row_inPlace, row_unfollowed, row_recurses, row_named, row_laidOut, row_may, row_lifts, row_plain, row_stops, row_maps]
  kernel_rfl
end Go.Proofs.YtochgglejmfelaaGreatDoor
