/- Looking for one text in another: the specification's own search and the program's search answer alike. -/
import Derived.Test.YtmjegeipnaalnaaGreatDoorProg
import Derived.Lib.Hide
import Derived.WalkKit
namespace Go.Proofs.YtmjegeipnaalnaaGreatDoor
open Go.RowKit

/-- The part lies in the text at this place. -/
def hit (s p : ByteArray) (i : Nat) : Bool := (s.extract i (i + p.size)).toList == p.toList
/-- The first place where the part lies, or minus one. -/
def findB (s p : ByteArray) : Int := match (List.range (s.size + 1 - p.size)).find? (fun i => hit s p i) with
  | some i => i
  | none => -1

theorem findB_at {s p : ByteArray} {i : Nat} (hi : i < s.size + 1 - p.size) (h : hit s p i = true) (hl : ∀ j, j < i → hit s p j = false) : findB s p = i := by
  unfold findB
  have : (List.range (s.size + 1 - p.size)).find? (fun i => hit s p i) = some i := by
    rw [List.find?_range_eq_some]
    exact ⟨h, by simpa using hi, fun j hj => by simp [hl j hj]⟩
  rw [this]
theorem findB_none {s p : ByteArray} (hl : ∀ j, j < s.size + 1 - p.size → hit s p j = false) : findB s p = -1 := by
  unfold findB
  have : (List.range (s.size + 1 - p.size)).find? (fun i => hit s p i) = none := by
    rw [List.find?_eq_none]
    intro x hx
    simp [hl x (by simpa using hx)]
  rw [this]

set_option maxRecDepth 100000 in
theorem zzIndex_walk (s p : ByteArray) (w : World) (hs : s.size ≤ 140737488351232) (hp : p.size ≤ 140737488351232) :
    Calls Tryz.prog 201 #[.string s, .string p] w fun e w' => e = .returned (.int .i64 (findB s p)) ∧ w' = w := by
  go_enter Tryz.func201, Tryz.ntmps201
  go_wp2_with fail
  go_loopw [5] (fun i wr => ∃ j : Nat, j ≤ s.size + 1 ∧ i = .int .i64 j ∧ (∀ k, k < j → k < s.size + 1 - p.size → hit s p k = false) ∧ wr = w) (fun i _ => s.size + 1 - (intOf i).toNat)
  case atStart => exact ⟨0, by omega, rfl, by simp, rfl⟩
  case round =>
    obtain ⟨j, hj, rfl, hno, rfl⟩ := hrel
    by_cases hjl : j + p.size ≤ s.size
    · have f1 : (0 : Int) ≤ (j : Int) := by omega
      have f2 : (j : Int) ≤ (j : Int) + (p.size : Int) := by omega
      have f3 : (j : Int) + (p.size : Int) ≤ (s.size : Int) := by omega
      by_cases hh : hit s p j = true
      · have hh' : ((s.extract j (j + p.size)).toList == p.toList) = true := hh
        go_wp2_with fail
        go_ret
        rw [findB_at (by omega) hh fun k hk => hno k hk (by omega)]
        exact ⟨rfl, rfl⟩
      · have hh' : ((s.extract j (j + p.size)).toList == p.toList) = false := by simpa [hit] using hh
        go_wp2_with fail
        refine ⟨⟨j + 1, by omega, by go_num, fun k hk hk2 => ?_, trivial⟩, by simp [intOf]; omega⟩
        by_cases e : k = j
        · subst e; simpa using hh
        · exact hno k (by omega) hk2
    · go_wp2_with fail
      go_ret
      rw [findB_none fun k hk => hno k (show k < j by omega) hk]
      exact ⟨rfl, rfl⟩
set_option maxRecDepth 100000 in
theorem find_walk (s p : ByteArray) (w : World) (hs : s.size ≤ 140737488351232) (hp : p.size ≤ 140737488351232) :
    Calls Tryz.prog 117 #[.string s, .string p, .int .i64 0] w fun e w' => e = .returned (.int .i64 (findB s p)) ∧ w' = w := by
  go_enter Tryz.func117, Tryz.ntmps117
  go_wp2_with fail
  go_loopw [7] (fun i wr => ∃ j : Nat, j ≤ s.size + 1 ∧ i = .int .i64 j ∧ (∀ k, k < j → k < s.size + 1 - p.size → hit s p k = false) ∧ wr = w) (fun i _ => s.size + 1 - (intOf i).toNat)
  case atStart => exact ⟨0, by omega, rfl, by simp, rfl⟩
  case round =>
    obtain ⟨j, hj, rfl, hno, rfl⟩ := hrel
    by_cases hjl : j + p.size ≤ s.size
    · have f1 : (0 : Int) ≤ (j : Int) := by omega
      have f2 : (j : Int) ≤ (j : Int) + (p.size : Int) := by omega
      have f3 : (j : Int) + (p.size : Int) ≤ (s.size : Int) := by omega
      by_cases hh : hit s p j = true
      · have hh' : ((s.extract j (j + p.size)).toList == p.toList) = true := hh
        go_wp2_with fail
        go_ret
        rw [findB_at (by omega) hh fun k hk => hno k hk (by omega)]
        exact ⟨rfl, rfl⟩
      · have hh' : ((s.extract j (j + p.size)).toList == p.toList) = false := by simpa [hit] using hh
        go_wp2_with fail
        refine ⟨⟨j + 1, by omega, by go_num, fun k hk hk2 => ?_, trivial⟩, by simp [intOf]; omega⟩
        by_cases e : k = j
        · subst e; simpa using hh
        · exact hno k (by omega) hk2
    · go_wp2_with fail
      go_ret
      rw [findB_none fun k hk => hno k (show k < j by omega) hk]
      exact ⟨rfl, rfl⟩

theorem zzContains_walk (s p : ByteArray) (w : World) (hs : s.size ≤ 140737488351232) (hp : p.size ≤ 140737488351232) :
    Calls Tryz.prog 138 #[.string s, .string p] w fun e w' => e = .returned (.bool (decide (findB s p ≥ 0))) ∧ w' = w := by
  go_enter Tryz.func138, Tryz.ntmps138
  go_wp2_with (go_at_call 201; refine (zzIndex_walk s p _ hs hp).mono ?_; rintro e w1 ⟨rfl, rfl⟩)
  go_ret
  exact ⟨rfl, rfl⟩
end Go.Proofs.YtmjegeipnaalnaaGreatDoor
