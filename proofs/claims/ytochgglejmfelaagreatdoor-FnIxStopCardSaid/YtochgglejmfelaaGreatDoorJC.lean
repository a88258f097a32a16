/- The closed facts of the row of laws.FnIxStop. (A part of the proof of this: for every input laws.FnIxStop returns true and its arguments read as they did, the listed package variables being what the program lays.) -/
import Derived.Test.YtochgglejmfelaaGreatDoorJA
import Derived.Test.YtochgglejmfelaaGreatDoorJB
namespace Go.Proofs.YtochgglejmfelaaGreatDoor
open Go
set_option maxRecDepth 100000
theorem stop_closed : joinedFacts Tryz.prog 3 Tryz.f3 Rows.fnIxStopSpec Rows.fnIxStopRow = true := by
  unfold joinedFacts
  rw [stop_inPlace, stop_unfollowed, stop_recurses, stop_named]
  kernel_rfl
end Go.Proofs.YtochgglejmfelaaGreatDoor
