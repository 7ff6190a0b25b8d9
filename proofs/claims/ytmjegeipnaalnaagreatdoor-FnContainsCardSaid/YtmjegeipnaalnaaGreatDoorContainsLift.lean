/- FnContains: the row's statement, lifted from the walk. -/
import Derived.Test.YtmjegeipnaalnaaGreatDoorClose
import Derived.Test.YtmjegeipnaalnaaGreatDoorContains
namespace Go.Proofs.YtmjegeipnaalnaaGreatDoor
open Go.RowKit Go.ChangeShapes Go.WideShapes Go.Lib

set_option maxRecDepth 100000 in
theorem fnContains_lifted (os : Os) (started : os.Started) (H : Type) (enc : TypeId × Value → H) :
    ReturnsInHanded {} Tryz.checked os 3 .any (fun w args => (Rows.fnContainsSpec.pre enc Tryz.prog Tryz.f3 [] false w args ∧ laidMetH Tryz.prog Rows.fnContainsRow.laid w) ∧ sizedMet enc Tryz.prog Tryz.f3 (OpenSpec.ofChange Rows.fnContainsSpec) false w args)
      (Rows.fnContainsSpec.post enc Tryz.prog Tryz.f3 false true false false) := by
  refine returnsInHanded_of_change_and (C := Tryz.checked) (X := fun w _ => laidMetH Tryz.prog Rows.fnContainsRow.laid w) (fun _ _ _ hh h => h.of_heap hh) own started (by kernel_rfl) Tryz.func3
    (ChangeSpec.witness_shaped (enc := enc) (C := Tryz.checked) (os := os) (X := fun w _ => laidMetH Tryz.prog Rows.fnContainsRow.laid w) false (World.laidAll Tryz.prog os Rows.fnContainsRow.laid) #[zeroArg, zeroArg] 8 (World.laidAll_os _ _ _)
      (World.shaped_of_ZipB (by kernel_rfl) (by kernel_rfl)) (by kernel_rfl) (by kernel_rfl) (by kernel_rfl)
      (by rw [MakeChecks.laidMetH_plain _ _ _ (by kernel_rfl)]; exact laidMet_laidAll _ (by kernel_rfl) (by kernel_rfl))) ?_
  intro W base args ds gs before _ hW _ hsz hL _
  have hW' := hW
  obtain ⟨p, q, hA0, hV, rfl, _, _⟩ := hW
  have hA : DataW.TrodAll enc Tryz.prog W 0 (fun _ => true) true Tryz.f3.params.toList args.toList ds p := hA0
  rw [Tryz.params3] at hA
  have hlt := hA.lt
  obtain ⟨v1, v2, d1, d2, p1, p2, rfl, rfl, rfl, h1, h2⟩ := trodAll_two hA
  obtain ⟨rfl, rfl⟩ := trodVars_none hV
  have hz : (DataW.weightsEach Tryz.prog [26, 26] [d1, d2]).all (· ≤ reachBytes) = true := by
    have h := hsz
    rw [Tryz.params3] at h
    exact h
  simp only [DataW.weightsEach, List.all_append, Bool.and_eq_true] at hz
  obtain ⟨t1, j1⟩ := open_arg h1 hz.1
  obtain ⟨t2, j2⟩ := open_arg h2 hz.2.1
  simp only [List.append_nil] at hW'
  rw [MakeChecks.laidMetH_plain _ _ _ (by kernel_rfl)] at hL
  have hT : Tabs W := tabs_of_reads (Pinned.utf8First_eq ▸ Lib.laidMet.reads hL (show ("unicode/utf8.first", Rows.laid_unicode_utf8_first) ∈ Rows.fnContainsRow.laid by simp [Rows.fnContainsRow]))
    (accept_eq ▸ Lib.laidMet.reads hL (show ("unicode/utf8.acceptRanges", Rows.laid_unicode_utf8_acceptRanges) ∈ Rows.fnContainsRow.laid by simp [Rows.fnContainsRow]))
  refine (Contains_walk t1 t2 v1 v2 W j1 j2 hT).mono fun e W' ⟨he, hb⟩ => ?_
  subst he
  have k1 := Below.trod laidOut readable26 rowed26 h1 hb (fun x hx => hlt x (by simp [hx]))
  have k2 := Below.trod laidOut readable26 rowed26 h2 hb (fun x hx => hlt x (by simp [hx]))
  exact ⟨_, rfl, _, _, _, [], _, [], hW', trodAll_mk1 (shut_bool Tryz.underlying4 _), trodAll_mk2 k1 k2, rfl, hb.frame _, fun h => by cases h⟩

end Go.Proofs.YtmjegeipnaalnaaGreatDoor
