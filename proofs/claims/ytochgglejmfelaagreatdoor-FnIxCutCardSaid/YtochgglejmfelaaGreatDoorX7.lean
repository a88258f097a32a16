/- For every input laws.FnIxCut returns true and its arguments read as they did: the row. -/
import Derived.Test.YtochgglejmfelaaGreatDoorX5
import Derived.Test.YtochgglejmfelaaGreatDoorQC
namespace Go.Proofs.YtochgglejmfelaaGreatDoor
open Go
set_option maxRecDepth 100000
theorem cut_holds : Rows.FnIxCutSaid :=
  OpenClaim.holds_of_wide 4 Tryz.f4 rfl rfl rfl rfl rfl rfl rfl ⟨rfl, rfl, rfl, rfl, rfl⟩ rfl rfl rfl rfl rfl (by kernel_rfl) Tryz.func4 cut_closed
    (of_decide_eq_true (by kernel_rfl)) (by unfold Func.isWrapper; rw [if_neg (of_decide_eq_false (by kernel_rfl))]; exact ⟨rfl, rfl⟩)
    (fun os started H enc _ => cut_lifted os started H enc)
#print axioms cut_holds
end Go.Proofs.YtochgglejmfelaaGreatDoor
