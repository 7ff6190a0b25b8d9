/- FnModRest: the row's statement. -/
import Derived.Test.YtmjegeipnaalnaaGreatDoorModRestLift
import Derived.Test.YtmjegeipnaalnaaGreatDoorModRestCells
namespace Go.Proofs.YtmjegeipnaalnaaGreatDoor
open Go.RowKit Go.ChangeShapes Go.WideShapes Go.Lib

theorem fnModRest_holds : Rows.FnModRestSaid :=
  OpenClaim.holds_of_wide 5 Tryz.f5 rfl rfl rfl rfl rfl rfl rfl ⟨rfl, rfl, rfl, rfl, rfl⟩ rfl rfl rfl rfl rfl (by kernel_rfl) Tryz.func5 fnModRest_cells
    (of_decide_eq_true (by kernel_rfl)) (by unfold Func.isWrapper; first | (rw [if_pos (by decide +kernel)]; kernel_rfl) | (rw [if_neg (by decide +kernel)]; exact ⟨rfl, rfl⟩))
    (fun os started H enc _ => fnModRest_lifted os started H enc)

end Go.Proofs.YtmjegeipnaalnaaGreatDoor
