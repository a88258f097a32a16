/- Closed facts of the card of laws.FnWrOptions: how it goes. (A part of the proof of this: for every input laws.FnWrOptions returns true and its arguments read as they did, the listed package variables being what the program lays) -/
import Derived.Test.YtochgglejmfelaaGreatDoorCards
import Derived.SevenTiedAt
set_option linter.unusedVariables false
set_option linter.unusedSimpArgs false
namespace Go.Proofs.YtochgglejmfelaaGreatDoor
open Go
set_option maxRecDepth 100000
theorem row_goes : false = Rows.fnWrOptionsRow.goesBy Tryz.prog := by kernel_rfl
end Go.Proofs.YtochgglejmfelaaGreatDoor
