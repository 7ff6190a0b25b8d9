/- FnSetApart: the row's statement, lifted from the walk. -/
import Derived.Test.YtmjegeipnaalnaaGreatDoorSaClose
import Derived.Test.YtmjegeipnaalnaaGreatDoorSaRep
import Derived.Test.YtmjegeipnaalnaaGreatDoorSaSetApart
namespace Go.Proofs.YtmjegeipnaalnaaGreatDoor
open Go.RowKit Go.ChangeShapes Go.WideShapes Go.Lib

theorem readable42 : Tryz.prog.readableRec 42 = true := by kernel_rfl
theorem rowed42 : 42 < Tryz.prog.types.size := of_decide_eq_true (by kernel_rfl)
theorem readable43 : Tryz.prog.readableRec 43 = true := by kernel_rfl
theorem rowed43 : 43 < Tryz.prog.types.size := of_decide_eq_true (by kernel_rfl)
/-- The zero of two values side by side. -/
def zeroPair : Value := .agg #[.int .i64 0, .int .i64 0, .string ⟨#[]⟩, .slice none 0 0, .slice none 0 0, .slice none 0 0, .int .i64 0, .int .i64 0, .string ⟨#[]⟩, .slice none 0 0, .slice none 0 0, .slice none 0 0]

set_option maxRecDepth 100000 in
theorem fnSetApart_lifted (os : Os) (started : os.Started) (H : Type) (enc : TypeId × Value → H) :
    ReturnsInHanded {} Tryz.checked os 6 .any (fun w args => (Rows.fnSetApartSpec.pre enc Tryz.prog Tryz.f6 [] false w args ∧ laidMetH Tryz.prog Rows.fnSetApartRow.laid w) ∧ sizedMet enc Tryz.prog Tryz.f6 (OpenSpec.ofChange Rows.fnSetApartSpec) false w args)
      (Rows.fnSetApartSpec.post enc Tryz.prog Tryz.f6 false true false false) := by
  refine returnsInHanded_of_change_and (C := Tryz.checked) (X := fun w _ => laidMetH Tryz.prog Rows.fnSetApartRow.laid w) (fun _ _ _ hh h => h.of_heap hh) own started (by kernel_rfl) Tryz.func6
    (ChangeSpec.witness_shaped (enc := enc) (C := Tryz.checked) (os := os) (X := fun w _ => laidMetH Tryz.prog Rows.fnSetApartRow.laid w) false (World.laidAll Tryz.prog os Rows.fnSetApartRow.laid) #[zeroArg, .agg #[.slice none 0 0, .slice none 0 0], zeroPair] 8 (World.laidAll_os _ _ _)
      (World.shaped_of_ZipB (by kernel_rfl) (by kernel_rfl)) (by kernel_rfl) (by kernel_rfl) (by kernel_rfl)
      (by rw [MakeChecks.laidMetH_plain _ _ _ (by kernel_rfl)]; exact laidMet_laidAll _ (by kernel_rfl) (by kernel_rfl))) ?_
  intro W base args ds gs before _ hW _ hsz hL _
  have hW' := hW
  obtain ⟨p, q, hA0, hV, rfl, _, _⟩ := hW
  have hA : DataW.TrodAll enc Tryz.prog W 0 (fun _ => true) true Tryz.f6.params.toList args.toList ds p := hA0
  rw [Tryz.params6] at hA
  have hlt := hA.lt
  obtain ⟨v1, v2, v3, d1, d2, d3, p1, p2, p3, rfl, rfl, rfl, h1, h2, h3⟩ := trodAll_three hA
  obtain ⟨rfl, rfl⟩ := trodVars_none hV
  have hz : (DataW.weightsEach Tryz.prog [26, 42, 43] [d1, d2, d3]).all (· ≤ reachBytes) = true := by
    have h := hsz
    rw [Tryz.params6] at h
    exact h
  simp only [DataW.weightsEach, List.all_append, Bool.and_eq_true] at hz
  obtain ⟨t1, j1⟩ := open_arg h1 hz.1
  obtain ⟨l, r, P1, P2, n1, n2, m1, m2, rfl, jp, jq⟩ := open_two h2 hz.2.1
  obtain ⟨x, y, x0, x1, x2, x3, x4, x5, y0, y1, y2, y3, y4, y5, rfl, jx, jy⟩ := open_both h3 hz.2.2.1
  simp only [List.append_nil] at hW'
  rw [MakeChecks.laidMetH_plain _ _ _ (by kernel_rfl)] at hL
  have hT : Tabs W := tabs_of_reads (Pinned.utf8First_eq ▸ Lib.laidMet.reads hL (show ("unicode/utf8.first", Rows.laid_unicode_utf8_first) ∈ Rows.fnSetApartRow.laid by simp [Rows.fnSetApartRow]))
    (accept_eq ▸ Lib.laidMet.reads hL (show ("unicode/utf8.acceptRanges", Rows.laid_unicode_utf8_acceptRanges) ∈ Rows.fnSetApartRow.laid by simp [Rows.fnSetApartRow]))
  refine (SetApart_walk t1 l r x y v1 P1 P2 n1 n2 m1 m2 x0 x1 x2 x3 x4 x5 y0 y1 y2 y3 y4 y5 W j1 jp jq jx jy hT).mono fun e W' ⟨he, hb⟩ => ?_
  subst he
  have k1 := Below.trod laidOut readable26 rowed26 h1 hb (fun x hx => hlt x (by simp [hx]))
  have k2 := Below.trod laidOut readable42 rowed42 h2 hb (fun x hx => hlt x (by simp [hx]))
  have k3 := Below.trod laidOut readable43 rowed43 h3 hb (fun x hx => hlt x (by simp [hx]))
  exact ⟨_, rfl, _, _, _, [], _, [], hW', trodAll_mk1 (shut_bool Tryz.underlying4 _), trodAll_mk3 k1 k2 k3, rfl, hb.frame _, fun h => by cases h⟩

end Go.Proofs.YtmjegeipnaalnaaGreatDoor
