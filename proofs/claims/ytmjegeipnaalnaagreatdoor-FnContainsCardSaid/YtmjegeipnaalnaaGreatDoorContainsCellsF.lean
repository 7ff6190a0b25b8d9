/- FnContains: the row's closed cells are what the program forces: each a fact of its own. -/
import Derived.Test.YtmjegeipnaalnaaGreatDoorClose
namespace Go.Proofs.YtmjegeipnaalnaaGreatDoor
open Go.RowKit Go.ChangeShapes Go.WideShapes Go.Lib

theorem fnContains_c0 : Rows.fnContainsRow.wf (OpenSpec.ofChange Rows.fnContainsSpec) = true := by kernel_rfl
theorem fnContains_c1 : laidOutB Tryz.prog = true := by kernel_rfl
theorem fnContains_c2 : mapsRowed Tryz.prog = true := by kernel_rfl
theorem fnContains_c3 : Tryz.f3.params.all (Tryz.prog.readableRec ·) = true := by kernel_rfl
theorem fnContains_c4 : namedTie Tryz.prog Rows.fnContainsRow.named Rows.fnContainsSpec.vars = true := by kernel_rfl
theorem fnContains_c5 : (Rows.fnContainsRow.stops == []) = true := by kernel_rfl
theorem fnContains_c6 : (Tryz.prog.stops == []) = true := by kernel_rfl
theorem fnContains_c7 : (Rows.fnContainsRow.knobs == []) = true := by kernel_rfl
theorem fnContains_c8 : (Tryz.prog.stopKnobs == []) = true := by kernel_rfl
theorem fnContains_c9 : (Rows.fnContainsRow.inPlace == Tryz.prog.inPlace 3) = true := by kernel_rfl
theorem fnContains_c10 : (Rows.fnContainsRow.unfollowed == Tryz.prog.unfollowed 3) = true := by kernel_rfl
theorem fnContains_c11 : (Rows.fnContainsRow.recurses == Tryz.prog.recurses 3) = true := by kernel_rfl
theorem fnContains_c12 : (Rows.fnContainsRow.named == Tryz.prog.varsNamed 3) = true := by kernel_rfl
theorem fnContains_c13 : (Rows.fnContainsRow.maps == (Tryz.f3.params.toList ++ Rows.fnContainsSpec.plain.varTypes Tryz.prog).any (Tryz.prog.mapsRec ·)) = true := by kernel_rfl
theorem fnContains_c14 : (Rows.fnContainsRow.ifaces == (Tryz.f3.params.toList ++ Rows.fnContainsSpec.plain.varTypes Tryz.prog).any (Tryz.prog.ifacesRec ·)) = true := by kernel_rfl
theorem fnContains_c15 : (Rows.fnContainsRow.mapsOut == Tryz.prog.mapsAmong Tryz.f3.resultTypes.toList) = true := by kernel_rfl
theorem fnContains_c16 : (Rows.fnContainsRow.loops == (Tryz.f3.params.toList ++ Rows.fnContainsSpec.plain.varTypes Tryz.prog).any (Tryz.prog.loopsFrom ·)) = true := by kernel_rfl
theorem fnContains_c17 : (Rows.fnContainsRow.wideKeys == (Tryz.f3.params.toList ++ Rows.fnContainsSpec.plain.varTypes Tryz.prog ++ Tryz.f3.resultTypes.toList).any (Tryz.prog.wideKeysFrom ·)) = true := by kernel_rfl
theorem fnContains_c18 : Rows.fnContainsSpec.vars.all (Tryz.prog.varReadable ·) = true := by kernel_rfl
theorem fnContains_c19 : Tryz.f3.resultTypes.all (fun t => Tryz.prog.readableRec t && decide (t < Tryz.prog.types.size)) = true := by kernel_rfl
theorem fnContains_c20 : (Rows.fnContainsRow.ifacesOut == Tryz.f3.resultTypes.toList.any (Tryz.prog.ifacesRec ·)) = true := by kernel_rfl
theorem fnContains_c21 : (Rows.fnContainsRow.loopsOut == Tryz.f3.resultTypes.toList.any (Tryz.prog.loopsFrom ·)) = true := by kernel_rfl
theorem fnContains_c22 : (Rows.fnContainsRow.plainKeys == Tryz.prog.plainKeys) = true := by kernel_rfl
theorem fnContains_c23 : Rows.fnContainsRow.shortTexts.isNone = true := by kernel_rfl
theorem fnContains_c24 : Tryz.prog.stopsHeard = true := by kernel_rfl
theorem fnContains_c25 : Tryz.prog.mayEnter = true := by kernel_rfl
theorem fnContains_c26 : (Rows.fnContainsRow.lifted == Tryz.prog.liftsFinal) = true := by kernel_rfl
theorem fnContains_c27 : (Tryz.prog.make == some Rows.fnContainsRow.make) = true := by kernel_rfl
theorem fnContains_c28 : (Rows.fnContainsRow.kinds == (if Rows.fnContainsRow.domain.isEmpty then [] else Tryz.f3.params.toList.map fun t => match Tryz.prog.underlying t with | some (.int k) => some k | _ => none)) = true := by kernel_rfl
theorem fnContains_c29 : (Rows.fnContainsRow.pinned == Rows.fnContainsRow.pinnedBy) = true := by kernel_rfl
theorem fnContains_c30 : (Rows.fnContainsRow.veiled == (Tryz.f3.params.toList ++ Rows.fnContainsSpec.plain.varTypes Tryz.prog ++ Tryz.f3.resultTypes.toList).any (Tryz.prog.veiledRec ·)) = true := by kernel_rfl
theorem fnContains_c31 : Rows.fnContainsRow.veiledFits Tryz.prog Tryz.f3.params.toList (Tryz.f3.params.toList ++ Rows.fnContainsSpec.plain.varTypes Tryz.prog ++ Tryz.f3.resultTypes.toList) = true := by kernel_rfl
end Go.Proofs.YtmjegeipnaalnaaGreatDoor
