/- FnSetApart: the tied card: the law returns true whatever its value, its two paths and its two values are, and they read behind the call as before. -/
import Derived.Test.YtmjegeipnaalnaaGreatDoorSaSetApartCells
import Derived.Test.YtmjegeipnaalnaaGreatDoorSaClose
namespace Go.Proofs.YtmjegeipnaalnaaGreatDoor
open Go.RowKit Go.ChangeShapes Go.WideShapes Go.Lib

theorem noStand42 : Tryz.prog.wantsStandIn 42 = false := by kernel_rfl
theorem noStand43 : Tryz.prog.wantsStandIn 43 = false := by kernel_rfl

theorem fnSetApart_card : Rows.FnSetApartCardSaid :=
  Claim7.holds_tied_plain_at .later [] [.data, .data, .widerDeep, .widerDeep, .data, .data, .data, .data, .data, .data, .sentinel, .sentinel, .pinned, .pinned, .pinned] true (true, "fc857ea83164b0b35f05852fd2b286e091e6e2f6ce43fe72f9fbf7356506d65e") true
    fnSetApart_holds (fun _ h => by cases h) fnSetApart_wf (fun _ h => by cases h) fnSetApart_row_tie rfl ⟨rfl, rfl⟩ prog_main rfl
    (fun f fn hf hfn => by
      obtain rfl : f = 6 := Option.some.inj (named6.symm.trans hf) |>.symm
      obtain rfl : fn = Tryz.f6 := (Option.some.inj (Tryz.func6.symm.trans hfn)).symm
      exact ⟨prog_looks, fun j t ht => by
        rw [Tryz.params6] at ht
        have hm : t ∈ [26, 42, 43] := by simpa using Array.mem_of_getElem? ht
        simp only [List.mem_cons, List.not_mem_nil, or_false] at hm
        rcases hm with rfl | rfl | rfl
        · exact noStand26
        · exact noStand42
        · exact noStand43⟩)
    fnSetApart_goes
end Go.Proofs.YtmjegeipnaalnaaGreatDoor
