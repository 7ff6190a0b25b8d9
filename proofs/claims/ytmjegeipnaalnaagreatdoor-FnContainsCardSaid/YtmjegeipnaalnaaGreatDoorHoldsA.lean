/- One value holds another: the specification's function, for all right values; and its answer as the reference gives it. -/
import Derived.Test.YtmjegeipnaalnaaGreatDoorHoldsM
namespace Go.Proofs.YtmjegeipnaalnaaGreatDoor
open Go.RowKit

set_option maxRecDepth 100000 in
set_option maxHeartbeats 4000000 in
theorem holds_ne (k k' h h' : Int) (t t' : ByteArray) (a0 a1 a2 b0 b1 b2 : Value) (w : World) (hk : k ≠ k') :
    Calls Tryz.prog 115 #[.agg #[.int .i64 k, .int .i64 h, .string t, a0, a1, a2], .agg #[.int .i64 k', .int .i64 h', .string t', b0, b1, b2]] w fun e w' => e = .returned (.bool false) ∧ Below w.heap.size w w' := by
  have hB := ((Below.refl w.heap.size w).alloc (Nat.le_refl _) (.cells #[.int .i64 k, .int .i64 h, .string t, a0, a1, a2] 26)).alloc (by simp) (.cells #[.int .i64 k', .int .i64 h', .string t', b0, b1, b2] 26)
  go_enter Tryz.func115, Tryz.ntmps115
  go_wp2_with fail
  go_ret
  exact ⟨rfl, hB⟩
set_option maxRecDepth 100000 in
set_option maxHeartbeats 4000000 in
theorem holds_text (h h' : Int) (t t' : ByteArray) (a0 a1 a2 b0 b1 b2 : Value) (w : World) (h1 : t.size ≤ 140737488351232) (h2 : t'.size ≤ 140737488351232) :
    Calls Tryz.prog 115 #[.agg #[.int .i64 4, .int .i64 h, .string t, a0, a1, a2], .agg #[.int .i64 4, .int .i64 h', .string t', b0, b1, b2]] w fun e w' => e = .returned (.bool (decide (0 ≤ findB t t'))) ∧ Below w.heap.size w w' := by
  have hB := ((Below.refl w.heap.size w).alloc (Nat.le_refl _) (.cells #[.int .i64 4, .int .i64 h, .string t, a0, a1, a2] 26)).alloc (by simp) (.cells #[.int .i64 4, .int .i64 h', .string t', b0, b1, b2] 26)
  go_enter Tryz.func115, Tryz.ntmps115
  go_wp2_with (go_at_call 117; refine (find_walk t t' _ h1 h2).mono ?_; rintro e w1 ⟨rfl, rfl⟩)
  go_ret
  exact ⟨rfl, hB⟩
set_option maxRecDepth 100000 in
set_option maxHeartbeats 4000000 in
theorem holds_rest (k h h' : Int) (t t' : ByteArray) (a0 a1 a2 b0 b1 b2 : Value) (w : World) (h0 : 0 ≤ k) (h2 : k ≤ 3) (hx1 : -1152921504606846976 ≤ h) (hx2 : h ≤ 1152921504606846976) (hy1 : -1152921504606846976 ≤ h') (hy2 : h' ≤ 1152921504606846976) (hz : k ≠ 3 → h = 0 ∧ h' = 0) :
    Calls Tryz.prog 115 #[.agg #[.int .i64 k, .int .i64 h, .string t, a0, a1, a2], .agg #[.int .i64 k, .int .i64 h', .string t', b0, b1, b2]] w fun e w' => e = .returned (.bool (h == h')) ∧ Below w.heap.size w w' := by
  have hB := ((Below.refl w.heap.size w).alloc (Nat.le_refl _) (.cells #[.int .i64 k, .int .i64 h, .string t, a0, a1, a2] 26)).alloc (by simp) (.cells #[.int .i64 k, .int .i64 h', .string t', b0, b1, b2] 26)
  have hk4 : k ≠ 4 := by omega
  have hk5 : k ≠ 5 := by omega
  have hk6 : k ≠ 6 := by omega
  have C := Lib.hid (fun W => Same_plain k h h' (.string t) a0 a1 a2 (.string t') b0 b1 b2 W h0 h2 hx1 hx2 hy1 hy2 hz)
  clear hz
  go_enter Tryz.func115, Tryz.ntmps115
  go_wp2_with (go_at_call 40; refine (C.out _).mono ?_; rintro e w1 ⟨rfl, hb⟩)
  go_ret
  exact ⟨rfl, hB.trans (hb.mono (by simp; omega))⟩

theorem holds_all : ∀ y, HoldsC y := by
  refine JV.ind fun k' h' t' l' ks' vs' ihl ihv => ?_
  intro x vx vy w hx hy gx gy
  obtain ⟨k, h, t, l, ks, vs⟩ := x
  obtain ⟨x1, x2, x3, x4, x5, x6, x7, x8, x9, x10, x11⟩ := gx.head
  obtain ⟨y1, y2, y3, y4, y5, y6, y7, y8, y9, y10, y11⟩ := gy.head
  by_cases hk : k = k'
  · subst hk
    by_cases h4 : k = 4
    · subst h4
      rw [holdsV_text]
      obtain ⟨_, _, _, rfl, _, _, ht, _⟩ := hx.laid
      obtain ⟨_, _, _, rfl, _, _, ht', _⟩ := hy.laid
      exact holds_text h h' t t' _ _ _ _ _ _ w ht ht'
    · by_cases h5 : k = 5
      · subst h5
        rw [holdsV_list]
        exact holds_list h h' t t' l l' vs vs' ks ks' ihl vx vy w hx hy x10 y10
      · by_cases h6 : k = 6
        · subst h6
          rw [holdsV_map]
          exact holds_map h h' t t' l l' vs vs' ks ks' ihv vx vy w hx hy x11 y11 x4 y4 x9
        · rw [holdsV_rest h4 h5 h6]
          obtain ⟨_, _, _, rfl, _⟩ := hx.laid
          obtain ⟨_, _, _, rfl, _⟩ := hy.laid
          exact holds_rest k h h' t t' _ _ _ _ _ _ w x1 (by omega) (by omega) (by omega) (by omega) (by omega) (fun hne => ⟨x3.resolve_left hne, y3.resolve_left hne⟩)
  · rw [holdsV_ne hk]
    obtain ⟨_, _, _, rfl, _⟩ := hx.laid
    obtain ⟨_, _, _, rfl, _⟩ := hy.laid
    exact holds_ne k k' h h' t t' _ _ _ _ _ _ w hk
end Go.Proofs.YtmjegeipnaalnaaGreatDoor
