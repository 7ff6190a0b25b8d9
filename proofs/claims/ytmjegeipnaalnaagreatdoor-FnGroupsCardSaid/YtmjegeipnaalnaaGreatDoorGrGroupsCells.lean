/- FnGroups: the row's closed cells, joined. FnGroups: the row's statement. -/
import Derived.Test.YtmjegeipnaalnaaGreatDoorGrGroupsCellsF
import Derived.Test.YtmjegeipnaalnaaGreatDoorGrGroupsLift

/- FnGroups: the row's closed cells, joined. -/
namespace Go.Proofs.YtmjegeipnaalnaaGreatDoor
open Go.RowKit Go.ChangeShapes Go.WideShapes Go.Lib

set_option maxRecDepth 100000 in
theorem fnGroups_cells : joinedFacts Tryz.prog 4 Tryz.f4 Rows.fnGroupsSpec Rows.fnGroupsRow = true := by
  simp only [joinedFacts, Bool.and_eq_true]
  exact ⟨⟨⟨⟨⟨⟨⟨⟨⟨⟨⟨⟨⟨⟨⟨⟨⟨⟨⟨⟨⟨⟨⟨⟨⟨⟨⟨⟨⟨⟨⟨fnGroups_c0, fnGroups_c1⟩, fnGroups_c2⟩, fnGroups_c3⟩, fnGroups_c4⟩, fnGroups_c5⟩, fnGroups_c6⟩, fnGroups_c7⟩, fnGroups_c8⟩, fnGroups_c9⟩, fnGroups_c10⟩, fnGroups_c11⟩, fnGroups_c12⟩, fnGroups_c13⟩, fnGroups_c14⟩, fnGroups_c15⟩, fnGroups_c16⟩, fnGroups_c17⟩, fnGroups_c18⟩, fnGroups_c19⟩, fnGroups_c20⟩, fnGroups_c21⟩, fnGroups_c22⟩, fnGroups_c23⟩, fnGroups_c24⟩, fnGroups_c25⟩, fnGroups_c26⟩, fnGroups_c27⟩, fnGroups_c28⟩, fnGroups_c29⟩, fnGroups_c30⟩, fnGroups_c31⟩
end Go.Proofs.YtmjegeipnaalnaaGreatDoor

/- FnGroups: the row's statement. -/
namespace Go.Proofs.YtmjegeipnaalnaaGreatDoor
open Go.RowKit Go.ChangeShapes Go.WideShapes Go.Lib

theorem fnGroups_holds : Rows.FnGroupsSaid :=
  OpenClaim.holds_of_wide 4 Tryz.f4 rfl rfl rfl rfl rfl rfl rfl ⟨rfl, rfl, rfl, rfl, rfl⟩ rfl rfl rfl rfl rfl (by kernel_rfl) Tryz.func4 fnGroups_cells
    (of_decide_eq_true (by kernel_rfl)) (by unfold Func.isWrapper; first | (rw [if_pos (by decide +kernel)]; kernel_rfl) | (rw [if_neg (by decide +kernel)]; exact ⟨rfl, rfl⟩))
    (fun os started H enc _ => fnGroups_lifted os started H enc)

end Go.Proofs.YtmjegeipnaalnaaGreatDoor
