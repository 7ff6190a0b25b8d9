/- Two values of one kind compared by the reference, where neither is a text, a list nor a map. -/
import Derived.Test.YtmjegeipnaalnaaGreatDoorSameN
namespace Go.Proofs.YtmjegeipnaalnaaGreatDoor
open Go.RowKit

set_option maxHeartbeats 1000000 in
theorem Cmp_plain (k x y : Int) (t1 l1 k1 v1 t2 l2 k2 v2 : Value) (w : World) (h0 : 0 ≤ k) (h2 : k ≤ 2) :
    Calls Tryz.prog 80 #[.agg #[.int .i64 k, .int .i64 x, t1, l1, k1, v1], .agg #[.int .i64 k, .int .i64 y, t2, l2, k2, v2]] w fun e w' => e = .returned (.int .i64 0) ∧ Below w.heap.size w w' := by
  have hB := ((Below.refl w.heap.size w).alloc (Nat.le_refl _) (.cells #[.int .i64 k, .int .i64 x, t1, l1, k1, v1] 26)).alloc (by simp) (.cells #[.int .i64 k, .int .i64 y, t2, l2, k2, v2] 26)
  have hk : k = 0 ∨ k = 1 ∨ k = 2 := by omega
  rcases hk with rfl | rfl | rfl
  all_goals
    go_enter Tryz.func80, Tryz.ntmps80
    go_wp2_with fail
    go_ret
    exact ⟨rfl, hB⟩

/-- Values of one kind up to a number's: the same where their halves are. -/
theorem sgn_zero (x y : Int) : (sgn (x - y) == 0) = (x == y) := by
  unfold sgn
  by_cases h : x = y
  · subst h; simp
  · have e : (x == y) = false := by simpa using h
    rw [e]
    split
    · rfl
    · split
      · rfl
      · exact absurd (show x = y by omega) h

set_option maxHeartbeats 1000000 in
theorem Same_plain (k x y : Int) (t1 l1 k1 v1 t2 l2 k2 v2 : Value) (w : World) (h0 : 0 ≤ k) (h2 : k ≤ 3) (hx1 : -1152921504606846976 ≤ x) (hx2 : x ≤ 1152921504606846976) (hy1 : -1152921504606846976 ≤ y) (hy2 : y ≤ 1152921504606846976) (hz : k ≠ 3 → x = 0 ∧ y = 0) :
    Calls Tryz.prog 40 #[.agg #[.int .i64 k, .int .i64 x, t1, l1, k1, v1], .agg #[.int .i64 k, .int .i64 y, t2, l2, k2, v2]] w fun e w' => e = .returned (.bool (x == y)) ∧ Below w.heap.size w w' := by
  have hB := ((Below.refl w.heap.size w).alloc (Nat.le_refl _) (.cells #[.int .i64 k, .int .i64 x, t1, l1, k1, v1] 26)).alloc (by simp) (.cells #[.int .i64 k, .int .i64 y, t2, l2, k2, v2] 26)
  by_cases h3 : k = 3
  · subst h3
    have HS := Lib.hid (sgn_zero x y)
    clear hz
    go_enter Tryz.func40, Tryz.ntmps40
    go_wp2_with (go_at_call 80; refine (Cmp_num x y _ _ _ _ _ _ _ _ _ hx1 hx2 hy1 hy2).mono ?_; rintro e w1 ⟨rfl, hb⟩)
    go_ret
    exact ⟨by simp [sgn_zero], hB.trans (hb.mono (by simp; omega))⟩
  · obtain ⟨rfl, rfl⟩ := hz h3
    go_enter Tryz.func40, Tryz.ntmps40
    go_wp2_with (go_at_call 80; refine (Cmp_plain k 0 0 _ _ _ _ _ _ _ _ _ h0 (by omega)).mono ?_; rintro e w1 ⟨rfl, hb⟩)
    go_ret
    exact ⟨by first | rfl | simp, hB.trans (hb.mono (by simp; omega))⟩
end Go.Proofs.YtmjegeipnaalnaaGreatDoor
