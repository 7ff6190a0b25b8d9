/- FnModRest: the card's last closed cell. -/
import Derived.Test.YtmjegeipnaalnaaGreatDoorClose
namespace Go.Proofs.YtmjegeipnaalnaaGreatDoor
theorem fnModRest_goes : false = Rows.fnModRestRow.goesBy Tryz.prog := by kernel_rfl
theorem fnModRest_wf : Rows.fnModRestRow.wfByText (OpenSpec.ofChange Rows.fnModRestSpec) = true := by kernel_rfl
end Go.Proofs.YtmjegeipnaalnaaGreatDoor
