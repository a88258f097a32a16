/- The closed facts of the row of laws.FnIxRead. (A part of the proof of this: for every input laws.FnIxRead returns true and its arguments read as they did, the listed package variables being what the program lays.) -/
import Derived.Test.YtochgglejmfelaaGreatDoorRA
import Derived.Test.YtochgglejmfelaaGreatDoorRB
namespace Go.Proofs.YtochgglejmfelaaGreatDoor
open Go
set_option maxRecDepth 100000
theorem read_closed : joinedFacts Tryz.prog 5 Tryz.f5 Rows.fnIxReadSpec Rows.fnIxReadRow = true := by
  unfold joinedFacts
  rw [read_inPlace, read_unfollowed, read_recurses, read_named]
  kernel_rfl
end Go.Proofs.YtochgglejmfelaaGreatDoor
