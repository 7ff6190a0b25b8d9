/- FnGroups: the row's closed cells are what the program forces: each a fact of its own. -/
import Derived.Test.YtmjegeipnaalnaaGreatDoorGrClose
namespace Go.Proofs.YtmjegeipnaalnaaGreatDoor
open Go.RowKit Go.ChangeShapes Go.WideShapes Go.Lib

theorem fnGroups_c0 : Rows.fnGroupsRow.wf (OpenSpec.ofChange Rows.fnGroupsSpec) = true := by kernel_rfl
theorem fnGroups_c1 : laidOutB Tryz.prog = true := by kernel_rfl
theorem fnGroups_c2 : mapsRowed Tryz.prog = true := by kernel_rfl
theorem fnGroups_c3 : Tryz.f4.params.all (Tryz.prog.readableRec ·) = true := by kernel_rfl
theorem fnGroups_c4 : namedTie Tryz.prog Rows.fnGroupsRow.named Rows.fnGroupsSpec.vars = true := by kernel_rfl
theorem fnGroups_c5 : (Rows.fnGroupsRow.stops == []) = true := by kernel_rfl
theorem fnGroups_c6 : (Tryz.prog.stops == []) = true := by kernel_rfl
theorem fnGroups_c7 : (Rows.fnGroupsRow.knobs == []) = true := by kernel_rfl
theorem fnGroups_c8 : (Tryz.prog.stopKnobs == []) = true := by kernel_rfl
theorem fnGroups_c9 : (Rows.fnGroupsRow.inPlace == Tryz.prog.inPlace 4) = true := by kernel_rfl
theorem fnGroups_c10 : (Rows.fnGroupsRow.unfollowed == Tryz.prog.unfollowed 4) = true := by kernel_rfl
theorem fnGroups_c11 : (Rows.fnGroupsRow.recurses == Tryz.prog.recurses 4) = true := by kernel_rfl
theorem fnGroups_c12 : (Rows.fnGroupsRow.named == Tryz.prog.varsNamed 4) = true := by kernel_rfl
theorem fnGroups_c13 : (Rows.fnGroupsRow.maps == (Tryz.f4.params.toList ++ Rows.fnGroupsSpec.plain.varTypes Tryz.prog).any (Tryz.prog.mapsRec ·)) = true := by kernel_rfl
theorem fnGroups_c14 : (Rows.fnGroupsRow.ifaces == (Tryz.f4.params.toList ++ Rows.fnGroupsSpec.plain.varTypes Tryz.prog).any (Tryz.prog.ifacesRec ·)) = true := by kernel_rfl
theorem fnGroups_c15 : (Rows.fnGroupsRow.mapsOut == Tryz.prog.mapsAmong Tryz.f4.resultTypes.toList) = true := by kernel_rfl
theorem fnGroups_c16 : (Rows.fnGroupsRow.loops == (Tryz.f4.params.toList ++ Rows.fnGroupsSpec.plain.varTypes Tryz.prog).any (Tryz.prog.loopsFrom ·)) = true := by kernel_rfl
theorem fnGroups_c17 : (Rows.fnGroupsRow.wideKeys == (Tryz.f4.params.toList ++ Rows.fnGroupsSpec.plain.varTypes Tryz.prog ++ Tryz.f4.resultTypes.toList).any (Tryz.prog.wideKeysFrom ·)) = true := by kernel_rfl
theorem fnGroups_c18 : Rows.fnGroupsSpec.vars.all (Tryz.prog.varReadable ·) = true := by kernel_rfl
theorem fnGroups_c19 : Tryz.f4.resultTypes.all (fun t => Tryz.prog.readableRec t && decide (t < Tryz.prog.types.size)) = true := by kernel_rfl
theorem fnGroups_c20 : (Rows.fnGroupsRow.ifacesOut == Tryz.f4.resultTypes.toList.any (Tryz.prog.ifacesRec ·)) = true := by kernel_rfl
theorem fnGroups_c21 : (Rows.fnGroupsRow.loopsOut == Tryz.f4.resultTypes.toList.any (Tryz.prog.loopsFrom ·)) = true := by kernel_rfl
theorem fnGroups_c22 : (Rows.fnGroupsRow.plainKeys == Tryz.prog.plainKeys) = true := by kernel_rfl
theorem fnGroups_c23 : Rows.fnGroupsRow.shortTexts.isNone = true := by kernel_rfl
theorem fnGroups_c24 : Tryz.prog.stopsHeard = true := by kernel_rfl
theorem fnGroups_c25 : Tryz.prog.mayEnter = true := by kernel_rfl
theorem fnGroups_c26 : (Rows.fnGroupsRow.lifted == Tryz.prog.liftsFinal) = true := by kernel_rfl
theorem fnGroups_c27 : (Tryz.prog.make == some Rows.fnGroupsRow.make) = true := by kernel_rfl
theorem fnGroups_c28 : (Rows.fnGroupsRow.kinds == (if Rows.fnGroupsRow.domain.isEmpty then [] else Tryz.f4.params.toList.map fun t => match Tryz.prog.underlying t with | some (.int k) => some k | _ => none)) = true := by kernel_rfl
theorem fnGroups_c29 : (Rows.fnGroupsRow.pinned == Rows.fnGroupsRow.pinnedBy) = true := by kernel_rfl
theorem fnGroups_c30 : (Rows.fnGroupsRow.veiled == (Tryz.f4.params.toList ++ Rows.fnGroupsSpec.plain.varTypes Tryz.prog ++ Tryz.f4.resultTypes.toList).any (Tryz.prog.veiledRec ·)) = true := by kernel_rfl
theorem fnGroups_c31 : Rows.fnGroupsRow.veiledFits Tryz.prog Tryz.f4.params.toList (Tryz.f4.params.toList ++ Rows.fnGroupsSpec.plain.varTypes Tryz.prog ++ Tryz.f4.resultTypes.toList) = true := by kernel_rfl
end Go.Proofs.YtmjegeipnaalnaaGreatDoor
