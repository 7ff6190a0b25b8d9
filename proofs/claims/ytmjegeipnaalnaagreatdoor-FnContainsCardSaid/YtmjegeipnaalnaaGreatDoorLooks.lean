/- What the four cards' closings share: closed facts of the program, each of its own. -/
import Derived.Test.YtmjegeipnaalnaaGreatDoorClose
namespace Go.Proofs.YtmjegeipnaalnaaGreatDoor
open Go.RowKit Go.ChangeShapes Go.WideShapes Go.Lib

theorem prog_looks : true = Tryz.prog.looks [] := by kernel_rfl
theorem prog_main : Tryz.prog.mainIs = some (true, "fc857ea83164b0b35f05852fd2b286e091e6e2f6ce43fe72f9fbf7356506d65e".toList) := by kernel_rfl
theorem noStand26 : Tryz.prog.wantsStandIn 26 = false := by kernel_rfl
theorem named3 : Tryz.prog.funcNamed "pub-strainer/laws.FnContains" = some 3 := by kernel_rfl
theorem named4 : Tryz.prog.funcNamed "pub-strainer/laws.FnGroups" = some 4 := by kernel_rfl
theorem named5 : Tryz.prog.funcNamed "pub-strainer/laws.FnModRest" = some 5 := by kernel_rfl
theorem named6 : Tryz.prog.funcNamed "pub-strainer/laws.FnSetApart" = some 6 := by kernel_rfl
end Go.Proofs.YtmjegeipnaalnaaGreatDoor
