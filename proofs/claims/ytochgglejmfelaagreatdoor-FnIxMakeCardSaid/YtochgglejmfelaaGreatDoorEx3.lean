/- The closed facts of the row of laws.FnIxMake. (A part of the proof of this: for every input laws.FnIxMake returns true and its arguments read as they did, the listed package variables being what the program lays) -/
import Derived.Test.YtochgglejmfelaaGreatDoorEx1
import Derived.Test.YtochgglejmfelaaGreatDoorEx2
import Derived.Test.YtochgglejmfelaaGreatDoorEx8
import Derived.Test.YtochgglejmfelaaGreatDoorEx9
import Derived.Test.YtochgglejmfelaaGreatDoorEx0
set_option linter.unusedVariables false
set_option linter.unusedSimpArgs false
namespace Go.Proofs.YtochgglejmfelaaGreatDoor
open Go
set_option maxRecDepth 100000
theorem row_closed : joinedFacts Tryz.prog 7 Tryz.f7 Rows.fnIxMakeSpec Rows.fnIxMakeRow = true := by
  unfold joinedFacts
  rw [row_inPlace, row_unfollowed, row_recurses, row_named, row_laidOut, row_may, row_lifts, row_plain, row_stops, row_maps]
  kernel_rfl
end Go.Proofs.YtochgglejmfelaaGreatDoor
