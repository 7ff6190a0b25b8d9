/- FnSetApart: the row's closed cells, joined. FnSetApart: the row's statement. -/
import Derived.Test.YtmjegeipnaalnaaGreatDoorSaSetApartCellsF
import Derived.Test.YtmjegeipnaalnaaGreatDoorSaSetApartLift

/- FnSetApart: the row's closed cells, joined. -/
namespace Go.Proofs.YtmjegeipnaalnaaGreatDoor
open Go.RowKit Go.ChangeShapes Go.WideShapes Go.Lib

set_option maxRecDepth 100000 in
theorem fnSetApart_cells : joinedFacts Tryz.prog 6 Tryz.f6 Rows.fnSetApartSpec Rows.fnSetApartRow = true := by
  simp only [joinedFacts, Bool.and_eq_true]
  exact ⟨⟨⟨⟨⟨⟨⟨⟨⟨⟨⟨⟨⟨⟨⟨⟨⟨⟨⟨⟨⟨⟨⟨⟨⟨⟨⟨⟨⟨⟨⟨fnSetApart_c0, fnSetApart_c1⟩, fnSetApart_c2⟩, fnSetApart_c3⟩, fnSetApart_c4⟩, fnSetApart_c5⟩, fnSetApart_c6⟩, fnSetApart_c7⟩, fnSetApart_c8⟩, fnSetApart_c9⟩, fnSetApart_c10⟩, fnSetApart_c11⟩, fnSetApart_c12⟩, fnSetApart_c13⟩, fnSetApart_c14⟩, fnSetApart_c15⟩, fnSetApart_c16⟩, fnSetApart_c17⟩, fnSetApart_c18⟩, fnSetApart_c19⟩, fnSetApart_c20⟩, fnSetApart_c21⟩, fnSetApart_c22⟩, fnSetApart_c23⟩, fnSetApart_c24⟩, fnSetApart_c25⟩, fnSetApart_c26⟩, fnSetApart_c27⟩, fnSetApart_c28⟩, fnSetApart_c29⟩, fnSetApart_c30⟩, fnSetApart_c31⟩
end Go.Proofs.YtmjegeipnaalnaaGreatDoor

/- FnSetApart: the row's statement. -/
namespace Go.Proofs.YtmjegeipnaalnaaGreatDoor
open Go.RowKit Go.ChangeShapes Go.WideShapes Go.Lib

theorem fnSetApart_holds : Rows.FnSetApartSaid :=
  OpenClaim.holds_of_wide 6 Tryz.f6 rfl rfl rfl rfl rfl rfl rfl ⟨rfl, rfl, rfl, rfl, rfl⟩ rfl rfl rfl rfl rfl (by kernel_rfl) Tryz.func6 fnSetApart_cells
    (of_decide_eq_true (by kernel_rfl)) (by unfold Func.isWrapper; first | (rw [if_pos (by decide +kernel)]; kernel_rfl) | (rw [if_neg (by decide +kernel)]; exact ⟨rfl, rfl⟩))
    (fun os started H enc _ => fnSetApart_lifted os started H enc)

end Go.Proofs.YtmjegeipnaalnaaGreatDoor
