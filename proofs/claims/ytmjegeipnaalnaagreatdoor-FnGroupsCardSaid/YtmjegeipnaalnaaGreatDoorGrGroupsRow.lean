/- FnGroups: the tied card: the law returns true whatever its two lists are, and they read behind the call as before. -/
import Derived.Test.YtmjegeipnaalnaaGreatDoorGrGroupsCells
import Derived.Test.YtmjegeipnaalnaaGreatDoorGrClose
namespace Go.Proofs.YtmjegeipnaalnaaGreatDoor
open Go.RowKit Go.ChangeShapes Go.WideShapes Go.Lib

theorem noStand23 : Tryz.prog.wantsStandIn 23 = false := by kernel_rfl

theorem fnGroups_card : Rows.FnGroupsCardSaid :=
  Claim7.holds_tied_plain_at .later [] [.data, .data, .widerDeep, .widerDeep, .data, .data, .data, .data, .data, .data, .sentinel, .sentinel, .pinned, .pinned, .pinned] true (true, "fc857ea83164b0b35f05852fd2b286e091e6e2f6ce43fe72f9fbf7356506d65e") true
    fnGroups_holds (fun _ h => by cases h) fnGroups_wf (fun _ h => by cases h) fnGroups_row_tie rfl ⟨rfl, rfl⟩ prog_main rfl
    (fun f fn hf hfn => by
      obtain rfl : f = 4 := Option.some.inj (named4.symm.trans hf) |>.symm
      obtain rfl : fn = Tryz.f4 := (Option.some.inj (Tryz.func4.symm.trans hfn)).symm
      exact ⟨prog_looks, fun j t ht => by
        rw [Tryz.params4] at ht
        have hm : t ∈ [23, 23] := by simpa using Array.mem_of_getElem? ht
        simp only [List.mem_cons, List.not_mem_nil, or_false] at hm
        rcases hm with rfl | rfl
        · exact noStand23
        · exact noStand23⟩)
    fnGroups_goes
end Go.Proofs.YtmjegeipnaalnaaGreatDoor
