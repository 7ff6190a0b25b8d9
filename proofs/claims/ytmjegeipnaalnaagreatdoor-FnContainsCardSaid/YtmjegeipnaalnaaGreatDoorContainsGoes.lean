/- FnContains: the card's last closed cells. -/
import Derived.Test.YtmjegeipnaalnaaGreatDoorNoGo
namespace Go.Proofs.YtmjegeipnaalnaaGreatDoor
theorem fnContains_goes : false = Rows.fnContainsRow.goesBy Tryz.prog := goesBy_none prog_noGo _
theorem fnContains_wf : Rows.fnContainsRow.wfByText (OpenSpec.ofChange Rows.fnContainsSpec) = true := by kernel_rfl
end Go.Proofs.YtmjegeipnaalnaaGreatDoor
