/- FnSetApart: the row's closed cells are what the program forces: each a fact of its own. -/
import Derived.Test.YtmjegeipnaalnaaGreatDoorSaClose
namespace Go.Proofs.YtmjegeipnaalnaaGreatDoor
open Go.RowKit Go.ChangeShapes Go.WideShapes Go.Lib

theorem fnSetApart_c0 : Rows.fnSetApartRow.wf (OpenSpec.ofChange Rows.fnSetApartSpec) = true := by kernel_rfl
theorem fnSetApart_c1 : laidOutB Tryz.prog = true := by kernel_rfl
theorem fnSetApart_c2 : mapsRowed Tryz.prog = true := by kernel_rfl
theorem fnSetApart_c3 : Tryz.f6.params.all (Tryz.prog.readableRec ·) = true := by kernel_rfl
theorem fnSetApart_c4 : namedTie Tryz.prog Rows.fnSetApartRow.named Rows.fnSetApartSpec.vars = true := by kernel_rfl
theorem fnSetApart_c5 : (Rows.fnSetApartRow.stops == []) = true := by kernel_rfl
theorem fnSetApart_c6 : (Tryz.prog.stops == []) = true := by kernel_rfl
theorem fnSetApart_c7 : (Rows.fnSetApartRow.knobs == []) = true := by kernel_rfl
theorem fnSetApart_c8 : (Tryz.prog.stopKnobs == []) = true := by kernel_rfl
theorem fnSetApart_c9 : (Rows.fnSetApartRow.inPlace == Tryz.prog.inPlace 6) = true := by kernel_rfl
theorem fnSetApart_c10 : (Rows.fnSetApartRow.unfollowed == Tryz.prog.unfollowed 6) = true := by kernel_rfl
theorem fnSetApart_c11 : (Rows.fnSetApartRow.recurses == Tryz.prog.recurses 6) = true := by kernel_rfl
theorem fnSetApart_c12 : (Rows.fnSetApartRow.named == Tryz.prog.varsNamed 6) = true := by kernel_rfl
theorem fnSetApart_c13 : (Rows.fnSetApartRow.maps == (Tryz.f6.params.toList ++ Rows.fnSetApartSpec.plain.varTypes Tryz.prog).any (Tryz.prog.mapsRec ·)) = true := by kernel_rfl
theorem fnSetApart_c14 : (Rows.fnSetApartRow.ifaces == (Tryz.f6.params.toList ++ Rows.fnSetApartSpec.plain.varTypes Tryz.prog).any (Tryz.prog.ifacesRec ·)) = true := by kernel_rfl
theorem fnSetApart_c15 : (Rows.fnSetApartRow.mapsOut == Tryz.prog.mapsAmong Tryz.f6.resultTypes.toList) = true := by kernel_rfl
theorem fnSetApart_c16 : (Rows.fnSetApartRow.loops == (Tryz.f6.params.toList ++ Rows.fnSetApartSpec.plain.varTypes Tryz.prog).any (Tryz.prog.loopsFrom ·)) = true := by kernel_rfl
theorem fnSetApart_c17 : (Rows.fnSetApartRow.wideKeys == (Tryz.f6.params.toList ++ Rows.fnSetApartSpec.plain.varTypes Tryz.prog ++ Tryz.f6.resultTypes.toList).any (Tryz.prog.wideKeysFrom ·)) = true := by kernel_rfl
theorem fnSetApart_c18 : Rows.fnSetApartSpec.vars.all (Tryz.prog.varReadable ·) = true := by kernel_rfl
theorem fnSetApart_c19 : Tryz.f6.resultTypes.all (fun t => Tryz.prog.readableRec t && decide (t < Tryz.prog.types.size)) = true := by kernel_rfl
theorem fnSetApart_c20 : (Rows.fnSetApartRow.ifacesOut == Tryz.f6.resultTypes.toList.any (Tryz.prog.ifacesRec ·)) = true := by kernel_rfl
theorem fnSetApart_c21 : (Rows.fnSetApartRow.loopsOut == Tryz.f6.resultTypes.toList.any (Tryz.prog.loopsFrom ·)) = true := by kernel_rfl
theorem fnSetApart_c22 : (Rows.fnSetApartRow.plainKeys == Tryz.prog.plainKeys) = true := by kernel_rfl
theorem fnSetApart_c23 : Rows.fnSetApartRow.shortTexts.isNone = true := by kernel_rfl
theorem fnSetApart_c24 : Tryz.prog.stopsHeard = true := by kernel_rfl
theorem fnSetApart_c25 : Tryz.prog.mayEnter = true := by kernel_rfl
theorem fnSetApart_c26 : (Rows.fnSetApartRow.lifted == Tryz.prog.liftsFinal) = true := by kernel_rfl
theorem fnSetApart_c27 : (Tryz.prog.make == some Rows.fnSetApartRow.make) = true := by kernel_rfl
theorem fnSetApart_c28 : (Rows.fnSetApartRow.kinds == (if Rows.fnSetApartRow.domain.isEmpty then [] else Tryz.f6.params.toList.map fun t => match Tryz.prog.underlying t with | some (.int k) => some k | _ => none)) = true := by kernel_rfl
theorem fnSetApart_c29 : (Rows.fnSetApartRow.pinned == Rows.fnSetApartRow.pinnedBy) = true := by kernel_rfl
theorem fnSetApart_c30 : (Rows.fnSetApartRow.veiled == (Tryz.f6.params.toList ++ Rows.fnSetApartSpec.plain.varTypes Tryz.prog ++ Tryz.f6.resultTypes.toList).any (Tryz.prog.veiledRec ·)) = true := by kernel_rfl
theorem fnSetApart_c31 : Rows.fnSetApartRow.veiledFits Tryz.prog Tryz.f6.params.toList (Tryz.f6.params.toList ++ Rows.fnSetApartSpec.plain.varTypes Tryz.prog ++ Tryz.f6.resultTypes.toList) = true := by kernel_rfl
end Go.Proofs.YtmjegeipnaalnaaGreatDoor
