/- FnGroups: the row's statement, lifted from the walk. -/
import Derived.Test.YtmjegeipnaalnaaGreatDoorGrClose
import Derived.Test.YtmjegeipnaalnaaGreatDoorGrGrpW
import Derived.Test.YtmjegeipnaalnaaGreatDoorGrRep
namespace Go.Proofs.YtmjegeipnaalnaaGreatDoor
open Go.RowKit Go.ChangeShapes Go.WideShapes Go.Lib

theorem readable23 : Tryz.prog.readableRec 23 = true := by kernel_rfl
theorem rowed23 : 23 < Tryz.prog.types.size := of_decide_eq_true (by kernel_rfl)

set_option maxRecDepth 100000 in
theorem fnGroups_lifted (os : Os) (started : os.Started) (H : Type) (enc : TypeId × Value → H) :
    ReturnsInHanded {} Tryz.checked os 4 .any (fun w args => (Rows.fnGroupsSpec.pre enc Tryz.prog Tryz.f4 [] false w args ∧ laidMetH Tryz.prog Rows.fnGroupsRow.laid w) ∧ sizedMet enc Tryz.prog Tryz.f4 (OpenSpec.ofChange Rows.fnGroupsSpec) false w args)
      (Rows.fnGroupsSpec.post enc Tryz.prog Tryz.f4 false true false false) := by
  refine returnsInHanded_of_change_and (C := Tryz.checked) (X := fun w _ => laidMetH Tryz.prog Rows.fnGroupsRow.laid w) (fun _ _ _ hh h => h.of_heap hh) own started (by kernel_rfl) Tryz.func4
    (ChangeSpec.witness_shaped (enc := enc) (C := Tryz.checked) (os := os) (X := fun w _ => laidMetH Tryz.prog Rows.fnGroupsRow.laid w) false (World.laidAll Tryz.prog os Rows.fnGroupsRow.laid) #[.slice none 0 0, .slice none 0 0] 8 (World.laidAll_os _ _ _)
      (World.shaped_of_ZipB (by kernel_rfl) (by kernel_rfl)) (by kernel_rfl) (by kernel_rfl) (by kernel_rfl)
      (by rw [MakeChecks.laidMetH_plain _ _ _ (by kernel_rfl)]; exact laidMet_laidAll _ (by kernel_rfl) (by kernel_rfl))) ?_
  intro W base args ds gs before hok hW _ hsz hL _
  have hW' := hW
  obtain ⟨p, q, hA0, hV, rfl, _, _⟩ := hW
  have hA : DataW.TrodAll enc Tryz.prog W 0 (fun _ => true) true Tryz.f4.params.toList args.toList ds p := hA0
  rw [Tryz.params4] at hA
  have hlt := hA.lt
  obtain ⟨v1, v2, d1, d2, p1, p2, rfl, rfl, rfl, h1, h2⟩ := trodAll_two hA
  obtain ⟨rfl, rfl⟩ := trodVars_none hV
  have hz : (DataW.weightsEach Tryz.prog [23, 23] [d1, d2]).all (· ≤ reachBytes) = true := by
    have h := hsz
    rw [Tryz.params4] at h
    exact h
  simp only [DataW.weightsEach, List.all_append, Bool.and_eq_true] at hz
  obtain ⟨P1, n1, m1, rfl⟩ := okWide_slice Tryz.underlying23 (hok 0 23 v1 (by rw [Tryz.params4]; rfl) rfl)
  obtain ⟨P2, n2, m2, rfl⟩ := okWide_slice Tryz.underlying23 (hok 1 23 v2 (by rw [Tryz.params4]; rfl) rfl)
  obtain ⟨f1, g1⟩ := h1
  obtain ⟨f2, g2⟩ := h2
  obtain ⟨l, jl⟩ := open_list (fun m _ => open_val m) g1 hz.1
  obtain ⟨k, jk⟩ := open_list (fun m _ => open_val m) g2 hz.2.1
  simp only [List.append_nil] at hW'
  rw [MakeChecks.laidMetH_plain _ _ _ (by kernel_rfl)] at hL
  have hT : Tabs W := tabs_of_reads (Pinned.utf8First_eq ▸ Lib.laidMet.reads hL (show ("unicode/utf8.first", Rows.laid_unicode_utf8_first) ∈ Rows.fnGroupsRow.laid by simp [Rows.fnGroupsRow]))
    (accept_eq ▸ Lib.laidMet.reads hL (show ("unicode/utf8.acceptRanges", Rows.laid_unicode_utf8_acceptRanges) ∈ Rows.fnGroupsRow.laid by simp [Rows.fnGroupsRow]))
  refine (Groups_walk l k P1 P2 n1 n2 m1 m2 W jl jk hT).mono fun e W' ⟨he, hb⟩ => ?_
  subst he
  have k1 := Below.trod laidOut readable23 rowed23 ⟨f1, g1⟩ hb (fun x hx => hlt x (by simp [hx]))
  have k2 := Below.trod laidOut readable23 rowed23 ⟨f2, g2⟩ hb (fun x hx => hlt x (by simp [hx]))
  exact ⟨_, rfl, _, _, _, [], _, [], hW', trodAll_mk1 (shut_bool Tryz.underlying4 _), trodAll_mk2 k1 k2, rfl, hb.frame _, fun h => by cases h⟩
end Go.Proofs.YtmjegeipnaalnaaGreatDoor
