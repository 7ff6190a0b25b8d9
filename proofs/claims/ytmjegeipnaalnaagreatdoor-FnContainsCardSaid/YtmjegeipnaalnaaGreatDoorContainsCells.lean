/- FnContains: the row's closed cells, joined. -/
import Derived.Test.YtmjegeipnaalnaaGreatDoorContainsCellsF
namespace Go.Proofs.YtmjegeipnaalnaaGreatDoor
open Go.RowKit Go.ChangeShapes Go.WideShapes Go.Lib

set_option maxRecDepth 100000 in
theorem fnContains_cells : joinedFacts Tryz.prog 3 Tryz.f3 Rows.fnContainsSpec Rows.fnContainsRow = true := by
  simp only [joinedFacts, Bool.and_eq_true]
  exact ⟨⟨⟨⟨⟨⟨⟨⟨⟨⟨⟨⟨⟨⟨⟨⟨⟨⟨⟨⟨⟨⟨⟨⟨⟨⟨⟨⟨⟨⟨⟨fnContains_c0, fnContains_c1⟩, fnContains_c2⟩, fnContains_c3⟩, fnContains_c4⟩, fnContains_c5⟩, fnContains_c6⟩, fnContains_c7⟩, fnContains_c8⟩, fnContains_c9⟩, fnContains_c10⟩, fnContains_c11⟩, fnContains_c12⟩, fnContains_c13⟩, fnContains_c14⟩, fnContains_c15⟩, fnContains_c16⟩, fnContains_c17⟩, fnContains_c18⟩, fnContains_c19⟩, fnContains_c20⟩, fnContains_c21⟩, fnContains_c22⟩, fnContains_c23⟩, fnContains_c24⟩, fnContains_c25⟩, fnContains_c26⟩, fnContains_c27⟩, fnContains_c28⟩, fnContains_c29⟩, fnContains_c30⟩, fnContains_c31⟩
end Go.Proofs.YtmjegeipnaalnaaGreatDoor
