/- FnContains: the row's statement. -/
import Derived.Test.YtmjegeipnaalnaaGreatDoorContainsLift
import Derived.Test.YtmjegeipnaalnaaGreatDoorContainsCells
namespace Go.Proofs.YtmjegeipnaalnaaGreatDoor
open Go.RowKit Go.ChangeShapes Go.WideShapes Go.Lib

theorem fnContains_holds : Rows.FnContainsSaid :=
  OpenClaim.holds_of_wide 3 Tryz.f3 rfl rfl rfl rfl rfl rfl rfl ⟨rfl, rfl, rfl, rfl, rfl⟩ rfl rfl rfl rfl rfl (by kernel_rfl) Tryz.func3 fnContains_cells
    (of_decide_eq_true (by kernel_rfl)) (by unfold Func.isWrapper; first | (rw [if_pos (by decide +kernel)]; kernel_rfl) | (rw [if_neg (by decide +kernel)]; exact ⟨rfl, rfl⟩))
    (fun os started H enc _ => fnContains_lifted os started H enc)

end Go.Proofs.YtmjegeipnaalnaaGreatDoor
