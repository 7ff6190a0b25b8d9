/- Two integers compared by the reference; an answer held against an integer. -/
import Derived.Test.YtmjegeipnaalnaaGreatDoorInt
namespace Go.Proofs.YtmjegeipnaalnaaGreatDoor
open Go.RowKit
def sgn (n : Int) : Int := if n < 0 then -1 else if 0 < n then 1 else 0
set_option maxHeartbeats 400000 in
theorem sign_walk (n : Int) (w : World) : Calls Tryz.prog 126 #[.int .i64 n] w fun e w' => e = .returned (.int .i64 (sgn n)) ∧ w' = w := by
  have h : n < 0 ∨ n = 0 ∨ 0 < n := by omega
  rcases h with h | h | h
  · have e : sgn n = -1 := by unfold sgn; rw [if_pos h]
    rw [e]; clear e
    go_enter Tryz.func126, Tryz.ntmps126
    go_wp2
    go_ret
    exact ⟨rfl, rfl⟩
  · subst h
    go_enter Tryz.func126, Tryz.ntmps126
    go_wp2
    go_ret
    exact ⟨rfl, rfl⟩
  · have e : sgn n = 1 := by unfold sgn; rw [if_neg (by omega), if_pos h]
    rw [e]; clear e
    go_enter Tryz.func126, Tryz.ntmps126
    go_wp2
    go_ret
    exact ⟨rfl, rfl⟩

set_option maxHeartbeats 1000000 in
theorem Cmp_num (x y : Int) (t1 l1 k1 v1 t2 l2 k2 v2 : Value) (w : World) (h1 : -1152921504606846976 ≤ x) (h2 : x ≤ 1152921504606846976) (h3 : -1152921504606846976 ≤ y) (h4 : y ≤ 1152921504606846976) :
    Calls Tryz.prog 80 #[.agg #[.int .i64 3, .int .i64 x, t1, l1, k1, v1], .agg #[.int .i64 3, .int .i64 y, t2, l2, k2, v2]] w fun e w' => e = .returned (.int .i64 (sgn (x - y))) ∧ Below w.heap.size w w' := by
  have hB := ((Below.refl w.heap.size w).alloc (Nat.le_refl _) (.cells #[.int .i64 3, .int .i64 x, t1, l1, k1, v1] 26)).alloc (by simp) (.cells #[.int .i64 3, .int .i64 y, t2, l2, k2, v2] 26)
  go_enter Tryz.func80, Tryz.ntmps80
  go_wp2_with (go_at_call 126; refine (sign_walk _ _).mono ?_; rintro e w1 ⟨rfl, rfl⟩)
  go_ret
  exact ⟨rfl, hB⟩

set_option maxHeartbeats 1000000 in
theorem Same_num (x : Int) (t1 l1 k1 v1 t2 l2 k2 v2 : Value) (w : World) (h1 : -1152921504606846976 ≤ x) (h2 : x ≤ 1152921504606846976) :
    Calls Tryz.prog 40 #[.agg #[.int .i64 3, .int .i64 x, t1, l1, k1, v1], .agg #[.int .i64 3, .int .i64 x, t2, l2, k2, v2]] w fun e w' => e = .returned (.bool true) ∧ Below w.heap.size w w' := by
  have hB := ((Below.refl w.heap.size w).alloc (Nat.le_refl _) (.cells #[.int .i64 3, .int .i64 x, t1, l1, k1, v1] 26)).alloc (by simp) (.cells #[.int .i64 3, .int .i64 x, t2, l2, k2, v2] 26)
  have hs : sgn (x - x) = 0 := by rw [Int.sub_self]; rfl
  have HS := Lib.hid hs
  clear hs
  go_enter Tryz.func40, Tryz.ntmps40
  go_wp2_with (go_at_call 80; refine (Cmp_num x x _ _ _ _ _ _ _ _ _ h1 h2 h1 h2).mono ?_; rintro e w1 ⟨rfl, hb⟩; rw [HS.out])
  go_ret
  exact ⟨rfl, hB.trans (hb.mono (by simp; omega))⟩

set_option maxHeartbeats 1000000 in
theorem told_num (x : Int) (w : World) (h1 : -1152921504606846976 ≤ x) (h2 : x ≤ 1152921504606846976) :
    Calls Tryz.prog 10 #[numR x, numV x, .int .i64 0] w fun e w' => e = .returned (.bool true) ∧ Below w.heap.size w w' := by
  unfold numR numV
  have hB := ((Below.refl w.heap.size w).alloc (Nat.le_refl _) (.cells #[.int .i64 3, .int .i64 x, .string ⟨#[]⟩, .slice none 0 0, .slice none 0 0, .slice none 0 0, .int .i64 0] 34)).alloc (by simp) (.cells #[.int .i64 3, .int .i64 x, .string ⟨#[]⟩, .slice none 0 0, .slice none 0 0, .slice none 0 0] 26)
  go_enter Tryz.func10, Tryz.ntmps10
  go_wp2_with (go_at_call 40; refine (Same_num x _ _ _ _ _ _ _ _ _ h1 h2).mono ?_; rintro e w1 ⟨rfl, hb⟩)
  go_ret
  exact ⟨rfl, hB.trans (hb.mono (by simp; omega))⟩

set_option maxHeartbeats 1000000 in
theorem given_num (x : Int) (w : World) (h1 : -1152921504606846976 ≤ x) (h2 : x ≤ 1152921504606846976) :
    Calls Tryz.prog 15 #[numR x, numV x] w fun e w' => e = .returned (.bool true) ∧ Below w.heap.size w w' := by
  have c := fun W => told_num x W h1 h2
  unfold numR numV at c ⊢
  have C := Lib.hid c
  clear c
  have hB := ((Below.refl w.heap.size w).alloc (Nat.le_refl _) (.cells #[.int .i64 3, .int .i64 x, .string ⟨#[]⟩, .slice none 0 0, .slice none 0 0, .slice none 0 0, .int .i64 0] 34)).alloc (by simp) (.cells #[.int .i64 3, .int .i64 x, .string ⟨#[]⟩, .slice none 0 0, .slice none 0 0, .slice none 0 0] 26)
  go_enter Tryz.func15, Tryz.ntmps15
  go_wp2_with (go_at_call 10; refine (C.out _).mono ?_; rintro e w1 ⟨rfl, hb⟩)
  go_ret
  exact ⟨rfl, hB.trans (hb.mono (by simp; omega))⟩
end Go.Proofs.YtmjegeipnaalnaaGreatDoor
