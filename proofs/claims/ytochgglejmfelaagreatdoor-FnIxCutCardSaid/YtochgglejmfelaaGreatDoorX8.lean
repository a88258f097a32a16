/- For every input laws.FnIxCut returns true and its arguments read as they did, the listed package variables being what the program lays: the card. -/
import Derived.Test.YtochgglejmfelaaGreatDoorX7
import Derived.Test.YtochgglejmfelaaGreatDoorTie
import Derived.Test.YtochgglejmfelaaGreatDoorCards
import Derived.SevenTiedAt
namespace Go.Proofs.YtochgglejmfelaaGreatDoor
open Go
set_option maxRecDepth 100000
theorem cut_named4 : Tryz.prog.funcNamed "pub-droshky/laws.FnIxCut" = some 4 := by kernel_rfl
theorem w22 : Tryz.prog.wantsStandIn 22 = false := by kernel_rfl
theorem w23 : Tryz.prog.wantsStandIn 23 = false := by kernel_rfl
theorem w37 : Tryz.prog.wantsStandIn 37 = false := by kernel_rfl
theorem looks_true : true = Tryz.prog.looks [] := by kernel_rfl
theorem cut_goes : false = Rows.fnIxCutRow.goesBy Tryz.prog := by kernel_rfl
theorem cut_card : Rows.FnIxCutCardSaid :=
  Claim7.holds_tied_plain_at .later [] [.sentinel, .sentinel, .sentinel, .sentinel, .sentinel, .sentinel, .sentinel, .sentinel, .data, .sentinel] true (true, "dda2a0f972efc807a9e1461376b68ce836ff84512577343b8d54128bba5f8956") true
    cut_holds (fun _ h => by cases h) (by kernel_rfl) (fun _ h => by cases h) fnIxCut_row_tie rfl ⟨rfl, rfl⟩ (by kernel_rfl) rfl
    (fun f fn hf hfn => by
      obtain rfl : f = 4 := Option.some.inj (cut_named4.symm.trans hf) |>.symm
      obtain rfl : fn = Tryz.f4 := (Option.some.inj (Tryz.func4.symm.trans hfn)).symm
      refine ⟨looks_true, fun j t ht => ?_⟩
      rw [Tryz.params4] at ht
      match j, ht with
      | 0, ht => obtain rfl : 22 = t := by simpa using ht
                 exact w22
      | 1, ht => obtain rfl : 23 = t := by simpa using ht
                 exact w23
      | 2, ht => obtain rfl : 37 = t := by simpa using ht
                 exact w37
      | n + 3, ht => simp at ht)
    cut_goes
#print axioms cut_card
end Go.Proofs.YtochgglejmfelaaGreatDoor
