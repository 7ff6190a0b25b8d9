/- FnModRest: the row's closed cells, joined. -/
import Derived.Test.YtmjegeipnaalnaaGreatDoorModRestCellsF
namespace Go.Proofs.YtmjegeipnaalnaaGreatDoor
open Go.RowKit Go.ChangeShapes Go.WideShapes Go.Lib

set_option maxRecDepth 100000 in
theorem fnModRest_cells : joinedFacts Tryz.prog 5 Tryz.f5 Rows.fnModRestSpec Rows.fnModRestRow = true := by
  simp only [joinedFacts, Bool.and_eq_true]
  exact ⟨⟨⟨⟨⟨⟨⟨⟨⟨⟨⟨⟨⟨⟨⟨⟨⟨⟨⟨⟨⟨⟨⟨⟨⟨⟨⟨⟨⟨⟨⟨fnModRest_c0, fnModRest_c1⟩, fnModRest_c2⟩, fnModRest_c3⟩, fnModRest_c4⟩, fnModRest_c5⟩, fnModRest_c6⟩, fnModRest_c7⟩, fnModRest_c8⟩, fnModRest_c9⟩, fnModRest_c10⟩, fnModRest_c11⟩, fnModRest_c12⟩, fnModRest_c13⟩, fnModRest_c14⟩, fnModRest_c15⟩, fnModRest_c16⟩, fnModRest_c17⟩, fnModRest_c18⟩, fnModRest_c19⟩, fnModRest_c20⟩, fnModRest_c21⟩, fnModRest_c22⟩, fnModRest_c23⟩, fnModRest_c24⟩, fnModRest_c25⟩, fnModRest_c26⟩, fnModRest_c27⟩, fnModRest_c28⟩, fnModRest_c29⟩, fnModRest_c30⟩, fnModRest_c31⟩
end Go.Proofs.YtmjegeipnaalnaaGreatDoor
