/- The card of laws.FnIxStop: for every input the law returns true, the listed variables being what the program's text lays. (A part of the proof of this: for every input laws.FnIxStop returns true and its arguments read as they did, the listed package variables being what the program lays.) -/
import Derived.Test.YtochgglejmfelaaGreatDoorJ7
import Derived.Test.YtochgglejmfelaaGreatDoorTie
import Derived.Test.YtochgglejmfelaaGreatDoorCards
import Derived.SevenTiedAt
namespace Go.Proofs.YtochgglejmfelaaGreatDoor
open Go
set_option maxRecDepth 100000
theorem stop_named3 : Tryz.prog.funcNamed "pub-droshky/laws.FnIxStop" = some 3 := by kernel_rfl
theorem w22 : Tryz.prog.wantsStandIn 22 = false := by kernel_rfl
theorem w23 : Tryz.prog.wantsStandIn 23 = false := by kernel_rfl
theorem w25 : Tryz.prog.wantsStandIn 25 = false := by kernel_rfl
theorem w5 : Tryz.prog.wantsStandIn 5 = false := by kernel_rfl
theorem looks_true : true = Tryz.prog.looks [] := by kernel_rfl
theorem stop_goes : false = Rows.fnIxStopRow.goesBy Tryz.prog := by kernel_rfl
theorem stop_card : Rows.FnIxStopCardSaid :=
  Claim7.holds_tied_plain_at .later [] [.sentinel, .sentinel, .sentinel, .sentinel, .sentinel, .sentinel, .sentinel, .sentinel, .data, .sentinel] true (true, "dda2a0f972efc807a9e1461376b68ce836ff84512577343b8d54128bba5f8956") true
    stop_holds (fun _ h => by cases h) (by kernel_rfl) (fun _ h => by cases h) fnIxStop_row_tie rfl ⟨rfl, rfl⟩ (by kernel_rfl) rfl
    (fun f fn hf hfn => by
      obtain rfl : f = 3 := Option.some.inj (stop_named3.symm.trans hf) |>.symm
      obtain rfl : fn = Tryz.f3 := (Option.some.inj (Tryz.func3.symm.trans hfn)).symm
      refine ⟨looks_true, fun j t ht => ?_⟩
      rw [Tryz.params3] at ht
      match j, ht with
      | 0, ht => obtain rfl : 22 = t := by simpa using ht
                 exact w22
      | 1, ht => obtain rfl : 23 = t := by simpa using ht
                 exact w23
      | 2, ht => obtain rfl : 25 = t := by simpa using ht
                 exact w25
      | 3, ht => obtain rfl : 5 = t := by simpa using ht
                 exact w5
      | n + 4, ht => simp at ht)
    stop_goes
#print axioms stop_card
end Go.Proofs.YtochgglejmfelaaGreatDoor
