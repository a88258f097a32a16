/- Closed facts of the card of laws.FnWrOptions: names, looks. (A part of the proof of this: for every input laws.FnWrOptions returns true and its arguments read as they did, the listed package variables being what the program lays) -/
import Derived.Test.YtochgglejmfelaaGreatDoorCards
import Derived.SevenTiedAt
set_option linter.unusedVariables false
set_option linter.unusedSimpArgs false
namespace Go.Proofs.YtochgglejmfelaaGreatDoor
open Go
set_option maxRecDepth 100000
theorem row_named6 : Tryz.prog.funcNamed "pub-droshky/laws.FnWrOptions" = some 8 := by kernel_rfl
theorem w4 : Tryz.prog.wantsStandIn 4 = false := by kernel_rfl
theorem w5 : Tryz.prog.wantsStandIn 5 = false := by kernel_rfl
theorem w23 : Tryz.prog.wantsStandIn 23 = false := by kernel_rfl
theorem w47 : Tryz.prog.wantsStandIn 47 = false := by kernel_rfl
theorem looks_true : true = Tryz.prog.looks [] := by kernel_rfl
end Go.Proofs.YtochgglejmfelaaGreatDoor
