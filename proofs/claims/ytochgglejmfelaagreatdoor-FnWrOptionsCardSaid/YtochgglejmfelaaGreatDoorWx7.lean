/- The card of laws.FnWrOptions: for every input the law returns true, the listed variables being what the program's text lays. (A part of the proof of this: for every input laws.FnWrOptions returns true and its arguments read as they did, the listed package variables being what the program lays) -/
import Derived.Test.YtochgglejmfelaaGreatDoorWx6
import Derived.Test.YtochgglejmfelaaGreatDoorTie
import Derived.Test.YtochgglejmfelaaGreatDoorCards
import Derived.SevenTiedAt
import Derived.Test.YtochgglejmfelaaGreatDoorWxA
import Derived.Test.YtochgglejmfelaaGreatDoorWxB
set_option linter.unusedVariables false
set_option linter.unusedSimpArgs false
namespace Go.Proofs.YtochgglejmfelaaGreatDoor
open Go
set_option maxRecDepth 100000
theorem options_card : Rows.FnWrOptionsCardSaid :=
  Claim7.holds_tied_plain_at .later [] [.sentinel, .sentinel, .sentinel, .sentinel, .sentinel, .sentinel, .sentinel, .sentinel, .sentinel, .sentinel, .sentinel, .sentinel, .sentinel, .sentinel, .sentinel, .sentinel, .data, .sentinel, .sentinel, .sentinel] true (true, "dda2a0f972efc807a9e1461376b68ce836ff84512577343b8d54128bba5f8956") true
    row_holds (fun _ h => by cases h) (by kernel_rfl) (fun _ h => by cases h) fnWrOptions_row_tie rfl ⟨rfl, rfl⟩ (by kernel_rfl) rfl
    (fun f fn hf hfn => by
      obtain rfl : f = 8 := Option.some.inj (row_named6.symm.trans hf) |>.symm
      obtain rfl : fn = Tryz.f8 := (Option.some.inj (Tryz.func8.symm.trans hfn)).symm
      refine ⟨looks_true, fun j t ht => ?_⟩
      rw [Tryz.params8] at ht
      match j, ht with
      | 0, ht => obtain rfl : 47 = t := by simpa using ht
                 exact w47
      | 1, ht => obtain rfl : 23 = t := by simpa using ht
                 exact w23
      | 2, ht => obtain rfl : 4 = t := by simpa using ht
                 exact w4
      | 3, ht => obtain rfl : 5 = t := by simpa using ht
                 exact w5
      | 4, ht => obtain rfl : 5 = t := by simpa using ht
                 exact w5
      | n + 5, ht => simp at ht)
    row_goes
#print axioms options_card
end Go.Proofs.YtochgglejmfelaaGreatDoor
