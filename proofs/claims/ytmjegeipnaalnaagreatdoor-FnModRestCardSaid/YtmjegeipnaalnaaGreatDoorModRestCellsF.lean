/- FnModRest: the row's closed cells are what the program forces: each a fact of its own. -/
import Derived.Test.YtmjegeipnaalnaaGreatDoorClose
namespace Go.Proofs.YtmjegeipnaalnaaGreatDoor
open Go.RowKit Go.ChangeShapes Go.WideShapes Go.Lib

theorem fnModRest_c0 : Rows.fnModRestRow.wf (OpenSpec.ofChange Rows.fnModRestSpec) = true := by kernel_rfl
theorem fnModRest_c1 : laidOutB Tryz.prog = true := by kernel_rfl
theorem fnModRest_c2 : mapsRowed Tryz.prog = true := by kernel_rfl
theorem fnModRest_c3 : Tryz.f5.params.all (Tryz.prog.readableRec ·) = true := by kernel_rfl
theorem fnModRest_c4 : namedTie Tryz.prog Rows.fnModRestRow.named Rows.fnModRestSpec.vars = true := by kernel_rfl
theorem fnModRest_c5 : (Rows.fnModRestRow.stops == []) = true := by kernel_rfl
theorem fnModRest_c6 : (Tryz.prog.stops == []) = true := by kernel_rfl
theorem fnModRest_c7 : (Rows.fnModRestRow.knobs == []) = true := by kernel_rfl
theorem fnModRest_c8 : (Tryz.prog.stopKnobs == []) = true := by kernel_rfl
theorem fnModRest_c9 : (Rows.fnModRestRow.inPlace == Tryz.prog.inPlace 5) = true := by kernel_rfl
theorem fnModRest_c10 : (Rows.fnModRestRow.unfollowed == Tryz.prog.unfollowed 5) = true := by kernel_rfl
theorem fnModRest_c11 : (Rows.fnModRestRow.recurses == Tryz.prog.recurses 5) = true := by kernel_rfl
theorem fnModRest_c12 : (Rows.fnModRestRow.named == Tryz.prog.varsNamed 5) = true := by kernel_rfl
theorem fnModRest_c13 : (Rows.fnModRestRow.maps == (Tryz.f5.params.toList ++ Rows.fnModRestSpec.plain.varTypes Tryz.prog).any (Tryz.prog.mapsRec ·)) = true := by kernel_rfl
theorem fnModRest_c14 : (Rows.fnModRestRow.ifaces == (Tryz.f5.params.toList ++ Rows.fnModRestSpec.plain.varTypes Tryz.prog).any (Tryz.prog.ifacesRec ·)) = true := by kernel_rfl
theorem fnModRest_c15 : (Rows.fnModRestRow.mapsOut == Tryz.prog.mapsAmong Tryz.f5.resultTypes.toList) = true := by kernel_rfl
theorem fnModRest_c16 : (Rows.fnModRestRow.loops == (Tryz.f5.params.toList ++ Rows.fnModRestSpec.plain.varTypes Tryz.prog).any (Tryz.prog.loopsFrom ·)) = true := by kernel_rfl
theorem fnModRest_c17 : (Rows.fnModRestRow.wideKeys == (Tryz.f5.params.toList ++ Rows.fnModRestSpec.plain.varTypes Tryz.prog ++ Tryz.f5.resultTypes.toList).any (Tryz.prog.wideKeysFrom ·)) = true := by kernel_rfl
theorem fnModRest_c18 : Rows.fnModRestSpec.vars.all (Tryz.prog.varReadable ·) = true := by kernel_rfl
theorem fnModRest_c19 : Tryz.f5.resultTypes.all (fun t => Tryz.prog.readableRec t && decide (t < Tryz.prog.types.size)) = true := by kernel_rfl
theorem fnModRest_c20 : (Rows.fnModRestRow.ifacesOut == Tryz.f5.resultTypes.toList.any (Tryz.prog.ifacesRec ·)) = true := by kernel_rfl
theorem fnModRest_c21 : (Rows.fnModRestRow.loopsOut == Tryz.f5.resultTypes.toList.any (Tryz.prog.loopsFrom ·)) = true := by kernel_rfl
theorem fnModRest_c22 : (Rows.fnModRestRow.plainKeys == Tryz.prog.plainKeys) = true := by kernel_rfl
theorem fnModRest_c23 : Rows.fnModRestRow.shortTexts.isNone = true := by kernel_rfl
theorem fnModRest_c24 : Tryz.prog.stopsHeard = true := by kernel_rfl
theorem fnModRest_c25 : Tryz.prog.mayEnter = true := by kernel_rfl
theorem fnModRest_c26 : (Rows.fnModRestRow.lifted == Tryz.prog.liftsFinal) = true := by kernel_rfl
theorem fnModRest_c27 : (Tryz.prog.make == some Rows.fnModRestRow.make) = true := by kernel_rfl
theorem fnModRest_c28 : (Rows.fnModRestRow.kinds == (if Rows.fnModRestRow.domain.isEmpty then [] else Tryz.f5.params.toList.map fun t => match Tryz.prog.underlying t with | some (.int k) => some k | _ => none)) = true := by kernel_rfl
theorem fnModRest_c29 : (Rows.fnModRestRow.pinned == Rows.fnModRestRow.pinnedBy) = true := by kernel_rfl
theorem fnModRest_c30 : (Rows.fnModRestRow.veiled == (Tryz.f5.params.toList ++ Rows.fnModRestSpec.plain.varTypes Tryz.prog ++ Tryz.f5.resultTypes.toList).any (Tryz.prog.veiledRec ·)) = true := by kernel_rfl
theorem fnModRest_c31 : Rows.fnModRestRow.veiledFits Tryz.prog Tryz.f5.params.toList (Tryz.f5.params.toList ++ Rows.fnModRestSpec.plain.varTypes Tryz.prog ++ Tryz.f5.resultTypes.toList) = true := by kernel_rfl
end Go.Proofs.YtmjegeipnaalnaaGreatDoor
