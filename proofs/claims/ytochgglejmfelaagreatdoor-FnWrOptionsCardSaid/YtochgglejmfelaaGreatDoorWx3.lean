/- The closed facts of the row of laws.FnWrOptions. (A part of the proof of this: for every input laws.FnWrOptions returns true and its arguments read as they did, the listed package variables being what the program lays) -/
import Derived.Test.YtochgglejmfelaaGreatDoorWx1
import Derived.Test.YtochgglejmfelaaGreatDoorWx2
import Derived.Test.YtochgglejmfelaaGreatDoorWx8
import Derived.Test.YtochgglejmfelaaGreatDoorWx9
import Derived.Test.YtochgglejmfelaaGreatDoorWx0
set_option linter.unusedVariables false
set_option linter.unusedSimpArgs false
namespace Go.Proofs.YtochgglejmfelaaGreatDoor
open Go
set_option maxRecDepth 100000
theorem row_closed : joinedFacts Tryz.prog 8 Tryz.f8 Rows.fnWrOptionsSpec Rows.fnWrOptionsRow = true := by
  unfold joinedFacts
  rw [row_inPlace, row_unfollowed, row_recurses, row_named, row_laidOut, row_may, row_lifts, row_plain, row_stops, row_maps]
  kernel_rfl
end Go.Proofs.YtochgglejmfelaaGreatDoor
