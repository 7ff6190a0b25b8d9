/- FnContains: the tied card: the law returns true whatever its two values are, and they read behind the call as before. -/
import Derived.Test.YtmjegeipnaalnaaGreatDoorContainsHold
import Derived.Test.YtmjegeipnaalnaaGreatDoorContainsGoes
import Derived.Test.YtmjegeipnaalnaaGreatDoorLooks
namespace Go.Proofs.YtmjegeipnaalnaaGreatDoor
open Go.RowKit Go.ChangeShapes Go.WideShapes Go.Lib

theorem fnContains_card : Rows.FnContainsCardSaid :=
  Claim7.holds_tied_plain_at .later [] [.data, .data, .widerDeep, .widerDeep, .data, .data, .data, .data, .data, .data, .sentinel, .sentinel, .pinned, .pinned, .pinned] true (true, "fc857ea83164b0b35f05852fd2b286e091e6e2f6ce43fe72f9fbf7356506d65e") true
    fnContains_holds (fun _ h => by cases h) fnContains_wf (fun _ h => by cases h) fnContains_row_tie rfl ⟨rfl, rfl⟩ prog_main rfl
    (fun f fn hf hfn => by
      obtain rfl : f = 3 := Option.some.inj (named3.symm.trans hf) |>.symm
      obtain rfl : fn = Tryz.f3 := (Option.some.inj (Tryz.func3.symm.trans hfn)).symm
      exact ⟨prog_looks, fun j t ht => by
        rw [Tryz.params3] at ht
        have hm : t ∈ [26, 26] := by simpa using Array.mem_of_getElem? ht
        obtain rfl : t = 26 := by simpa using hm
        exact noStand26⟩)
    fnContains_goes
end Go.Proofs.YtmjegeipnaalnaaGreatDoor
