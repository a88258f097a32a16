/- The card of laws.FnIxRead: for every input the law returns true, the listed variables being what the program's text lays. (A part of the proof of this: for every input laws.FnIxRead returns true and its arguments read as they did, the listed package variables being what the program lays.) -/
import Derived.Test.YtochgglejmfelaaGreatDoorR7
import Derived.Test.YtochgglejmfelaaGreatDoorTie
import Derived.Test.YtochgglejmfelaaGreatDoorCards
import Derived.SevenTiedAt
namespace Go.Proofs.YtochgglejmfelaaGreatDoor
open Go
set_option maxRecDepth 100000
theorem read_named5 : Tryz.prog.funcNamed "pub-droshky/laws.FnIxRead" = some 5 := by kernel_rfl
theorem w22 : Tryz.prog.wantsStandIn 22 = false := by kernel_rfl
theorem w23 : Tryz.prog.wantsStandIn 23 = false := by kernel_rfl
theorem w9 : Tryz.prog.wantsStandIn 9 = false := by kernel_rfl
theorem looks_true : true = Tryz.prog.looks [] := by kernel_rfl
theorem read_goes : false = Rows.fnIxReadRow.goesBy Tryz.prog := by kernel_rfl
theorem read_card : Rows.FnIxReadCardSaid :=
  Claim7.holds_tied_plain_at .later [] [.sentinel, .sentinel, .sentinel, .sentinel, .sentinel, .sentinel, .sentinel, .sentinel, .data, .sentinel] true (true, "dda2a0f972efc807a9e1461376b68ce836ff84512577343b8d54128bba5f8956") true
    read_holds (fun _ h => by cases h) (by kernel_rfl) (fun _ h => by cases h) fnIxRead_row_tie rfl ⟨rfl, rfl⟩ (by kernel_rfl) rfl
    (fun f fn hf hfn => by
      obtain rfl : f = 5 := Option.some.inj (read_named5.symm.trans hf) |>.symm
      obtain rfl : fn = Tryz.f5 := (Option.some.inj (Tryz.func5.symm.trans hfn)).symm
      refine ⟨looks_true, fun j t ht => ?_⟩
      rw [Tryz.params5] at ht
      match j, ht with
      | 0, ht => obtain rfl : 22 = t := by simpa using ht
                 exact w22
      | 1, ht => obtain rfl : 23 = t := by simpa using ht
                 exact w23
      | 2, ht => obtain rfl : 9 = t := by simpa using ht
                 exact w9
      | n + 3, ht => simp at ht)
    read_goes
#print axioms read_card
end Go.Proofs.YtochgglejmfelaaGreatDoor
