/- Two integers compared by the reference; an answer held against an integer. Two values of one kind compared by the reference, where neither is a text, a list nor a map. One value holds another: the walk of the specification's function. -/
import Derived.Test.YtmjegeipnaalnaaGreatDoorGrInt
import Derived.Test.YtmjegeipnaalnaaGreatDoorGrGuard
import Derived.Test.YtmjegeipnaalnaaGreatDoorGrFind
import Derived.Lib.QuietBelow

/- Two integers compared by the reference; an answer held against an integer. -/
namespace Go.Proofs.YtmjegeipnaalnaaGreatDoor
open Go.RowKit
def sgn (n : Int) : Int := if n < 0 then -1 else if 0 < n then 1 else 0
set_option maxHeartbeats 400000 in
theorem sign_walk (n : Int) (w : World) : Calls Tryz.prog 126 #[.int .i64 n] w fun e w' => e = .returned (.int .i64 (sgn n)) ∧ w' = w := by
  have h : n < 0 ∨ n = 0 ∨ 0 < n := by omega
  rcases h with h | h | h
  · have e : sgn n = -1 := by unfold sgn; rw [if_pos h]
    rw [e]; clear e
    go_enter Tryz.func126, Tryz.ntmps126
    go_wp2
    go_ret
    exact ⟨rfl, rfl⟩
  · subst h
    go_enter Tryz.func126, Tryz.ntmps126
    go_wp2
    go_ret
    exact ⟨rfl, rfl⟩
  · have e : sgn n = 1 := by unfold sgn; rw [if_neg (by omega), if_pos h]
    rw [e]; clear e
    go_enter Tryz.func126, Tryz.ntmps126
    go_wp2
    go_ret
    exact ⟨rfl, rfl⟩

set_option maxHeartbeats 1000000 in
theorem Cmp_num (x y : Int) (t1 l1 k1 v1 t2 l2 k2 v2 : Value) (w : World) (h1 : -1152921504606846976 ≤ x) (h2 : x ≤ 1152921504606846976) (h3 : -1152921504606846976 ≤ y) (h4 : y ≤ 1152921504606846976) :
    Calls Tryz.prog 80 #[.agg #[.int .i64 3, .int .i64 x, t1, l1, k1, v1], .agg #[.int .i64 3, .int .i64 y, t2, l2, k2, v2]] w fun e w' => e = .returned (.int .i64 (sgn (x - y))) ∧ Below w.heap.size w w' := by
  have hB := ((Below.refl w.heap.size w).alloc (Nat.le_refl _) (.cells #[.int .i64 3, .int .i64 x, t1, l1, k1, v1] 26)).alloc (by simp) (.cells #[.int .i64 3, .int .i64 y, t2, l2, k2, v2] 26)
  go_enter Tryz.func80, Tryz.ntmps80
  go_wp2_with (go_at_call 126; refine (sign_walk _ _).mono ?_; rintro e w1 ⟨rfl, rfl⟩)
  go_ret
  exact ⟨rfl, hB⟩

set_option maxHeartbeats 1000000 in
theorem Same_num (x : Int) (t1 l1 k1 v1 t2 l2 k2 v2 : Value) (w : World) (h1 : -1152921504606846976 ≤ x) (h2 : x ≤ 1152921504606846976) :
    Calls Tryz.prog 40 #[.agg #[.int .i64 3, .int .i64 x, t1, l1, k1, v1], .agg #[.int .i64 3, .int .i64 x, t2, l2, k2, v2]] w fun e w' => e = .returned (.bool true) ∧ Below w.heap.size w w' := by
  have hB := ((Below.refl w.heap.size w).alloc (Nat.le_refl _) (.cells #[.int .i64 3, .int .i64 x, t1, l1, k1, v1] 26)).alloc (by simp) (.cells #[.int .i64 3, .int .i64 x, t2, l2, k2, v2] 26)
  have hs : sgn (x - x) = 0 := by rw [Int.sub_self]; rfl
  have HS := Lib.hid hs
  clear hs
  go_enter Tryz.func40, Tryz.ntmps40
  go_wp2_with (go_at_call 80; refine (Cmp_num x x _ _ _ _ _ _ _ _ _ h1 h2 h1 h2).mono ?_; rintro e w1 ⟨rfl, hb⟩; rw [HS.out])
  go_ret
  exact ⟨rfl, hB.trans (hb.mono (by simp; omega))⟩

set_option maxHeartbeats 1000000 in
theorem told_num (x : Int) (w : World) (h1 : -1152921504606846976 ≤ x) (h2 : x ≤ 1152921504606846976) :
    Calls Tryz.prog 10 #[numR x, numV x, .int .i64 0] w fun e w' => e = .returned (.bool true) ∧ Below w.heap.size w w' := by
  unfold numR numV
  have hB := ((Below.refl w.heap.size w).alloc (Nat.le_refl _) (.cells #[.int .i64 3, .int .i64 x, .string ⟨#[]⟩, .slice none 0 0, .slice none 0 0, .slice none 0 0, .int .i64 0] 34)).alloc (by simp) (.cells #[.int .i64 3, .int .i64 x, .string ⟨#[]⟩, .slice none 0 0, .slice none 0 0, .slice none 0 0] 26)
  go_enter Tryz.func10, Tryz.ntmps10
  go_wp2_with (go_at_call 40; refine (Same_num x _ _ _ _ _ _ _ _ _ h1 h2).mono ?_; rintro e w1 ⟨rfl, hb⟩)
  go_ret
  exact ⟨rfl, hB.trans (hb.mono (by simp; omega))⟩

set_option maxHeartbeats 1000000 in
theorem given_num (x : Int) (w : World) (h1 : -1152921504606846976 ≤ x) (h2 : x ≤ 1152921504606846976) :
    Calls Tryz.prog 15 #[numR x, numV x] w fun e w' => e = .returned (.bool true) ∧ Below w.heap.size w w' := by
  have c := fun W => told_num x W h1 h2
  unfold numR numV at c ⊢
  have C := Lib.hid c
  clear c
  have hB := ((Below.refl w.heap.size w).alloc (Nat.le_refl _) (.cells #[.int .i64 3, .int .i64 x, .string ⟨#[]⟩, .slice none 0 0, .slice none 0 0, .slice none 0 0, .int .i64 0] 34)).alloc (by simp) (.cells #[.int .i64 3, .int .i64 x, .string ⟨#[]⟩, .slice none 0 0, .slice none 0 0, .slice none 0 0] 26)
  go_enter Tryz.func15, Tryz.ntmps15
  go_wp2_with (go_at_call 10; refine (C.out _).mono ?_; rintro e w1 ⟨rfl, hb⟩)
  go_ret
  exact ⟨rfl, hB.trans (hb.mono (by simp; omega))⟩
end Go.Proofs.YtmjegeipnaalnaaGreatDoor

/- Two values of one kind compared by the reference, where neither is a text, a list nor a map. -/
namespace Go.Proofs.YtmjegeipnaalnaaGreatDoor
open Go.RowKit

set_option maxHeartbeats 1000000 in
theorem Cmp_plain (k x y : Int) (t1 l1 k1 v1 t2 l2 k2 v2 : Value) (w : World) (h0 : 0 ≤ k) (h2 : k ≤ 2) :
    Calls Tryz.prog 80 #[.agg #[.int .i64 k, .int .i64 x, t1, l1, k1, v1], .agg #[.int .i64 k, .int .i64 y, t2, l2, k2, v2]] w fun e w' => e = .returned (.int .i64 0) ∧ Below w.heap.size w w' := by
  have hB := ((Below.refl w.heap.size w).alloc (Nat.le_refl _) (.cells #[.int .i64 k, .int .i64 x, t1, l1, k1, v1] 26)).alloc (by simp) (.cells #[.int .i64 k, .int .i64 y, t2, l2, k2, v2] 26)
  have hk : k = 0 ∨ k = 1 ∨ k = 2 := by omega
  rcases hk with rfl | rfl | rfl
  all_goals
    go_enter Tryz.func80, Tryz.ntmps80
    go_wp2_with fail
    go_ret
    exact ⟨rfl, hB⟩

/-- Values of one kind up to a number's: the same where their halves are. -/
theorem sgn_zero (x y : Int) : (sgn (x - y) == 0) = (x == y) := by
  unfold sgn
  by_cases h : x = y
  · subst h; simp
  · have e : (x == y) = false := by simpa using h
    rw [e]
    split
    · rfl
    · split
      · rfl
      · exact absurd (show x = y by omega) h

set_option maxHeartbeats 1000000 in
theorem Same_plain (k x y : Int) (t1 l1 k1 v1 t2 l2 k2 v2 : Value) (w : World) (h0 : 0 ≤ k) (h2 : k ≤ 3) (hx1 : -1152921504606846976 ≤ x) (hx2 : x ≤ 1152921504606846976) (hy1 : -1152921504606846976 ≤ y) (hy2 : y ≤ 1152921504606846976) (hz : k ≠ 3 → x = 0 ∧ y = 0) :
    Calls Tryz.prog 40 #[.agg #[.int .i64 k, .int .i64 x, t1, l1, k1, v1], .agg #[.int .i64 k, .int .i64 y, t2, l2, k2, v2]] w fun e w' => e = .returned (.bool (x == y)) ∧ Below w.heap.size w w' := by
  have hB := ((Below.refl w.heap.size w).alloc (Nat.le_refl _) (.cells #[.int .i64 k, .int .i64 x, t1, l1, k1, v1] 26)).alloc (by simp) (.cells #[.int .i64 k, .int .i64 y, t2, l2, k2, v2] 26)
  by_cases h3 : k = 3
  · subst h3
    have HS := Lib.hid (sgn_zero x y)
    clear hz
    go_enter Tryz.func40, Tryz.ntmps40
    go_wp2_with (go_at_call 80; refine (Cmp_num x y _ _ _ _ _ _ _ _ _ hx1 hx2 hy1 hy2).mono ?_; rintro e w1 ⟨rfl, hb⟩)
    go_ret
    exact ⟨by simp [sgn_zero], hB.trans (hb.mono (by simp; omega))⟩
  · obtain ⟨rfl, rfl⟩ := hz h3
    go_enter Tryz.func40, Tryz.ntmps40
    go_wp2_with (go_at_call 80; refine (Cmp_plain k 0 0 _ _ _ _ _ _ _ _ _ h0 (by omega)).mono ?_; rintro e w1 ⟨rfl, hb⟩)
    go_ret
    exact ⟨by first | rfl | simp, hB.trans (hb.mono (by simp; omega))⟩
end Go.Proofs.YtmjegeipnaalnaaGreatDoor

/- One value holds another: the walk of the specification's function. -/
namespace Go.Proofs.YtmjegeipnaalnaaGreatDoor
open Go.RowKit

/-- What the function promises for one second value. -/
def HoldsC (y : JV) : Prop := ∀ (x : JV) (vx vy : Value) (w : World), JVal w w.heap.size x vx → JVal w w.heap.size y vy → Good x → Good y →
  Calls Tryz.prog 115 #[vx, vy] w fun e w' => e = .returned (.bool (holdsV x y)) ∧ Below w.heap.size w w'

theorem holdsV_ne {k k' h h' : Int} {t t' : ByteArray} {l l' vs vs' : List JV} {ks ks' : List ByteArray} (hk : k ≠ k') : holdsV (.mk k h t l ks vs) (.mk k' h' t' l' ks' vs') = false := by
  unfold holdsV; simp [hk]
theorem holdsV_text {h h' : Int} {t t' : ByteArray} {l l' vs vs' : List JV} {ks ks' : List ByteArray} : holdsV (.mk 4 h t l ks vs) (.mk 4 h' t' l' ks' vs') = decide (0 ≤ findB t t') := by
  unfold holdsV; simp
theorem holdsV_list {h h' : Int} {t t' : ByteArray} {l l' vs vs' : List JV} {ks ks' : List ByteArray} : holdsV (.mk 5 h t l ks vs) (.mk 5 h' t' l' ks' vs') = holdsL l l' := by
  unfold holdsV; simp
theorem holdsV_map {h h' : Int} {t t' : ByteArray} {l l' vs vs' : List JV} {ks ks' : List ByteArray} : holdsV (.mk 6 h t l ks vs) (.mk 6 h' t' l' ks' vs') = holdsM ks vs ks' vs' := by
  unfold holdsV; simp
theorem holdsV_rest {k h h' : Int} {t t' : ByteArray} {l l' vs vs' : List JV} {ks ks' : List ByteArray} (h4 : k ≠ 4) (h5 : k ≠ 5) (h6 : k ≠ 6) : holdsV (.mk k h t l ks vs) (.mk k h' t' l' ks' vs') = (h == h') := by
  unfold holdsV; simp [h4, h5, h6]

theorem holdsL_append (l : List JV) : ∀ (a b : List JV), holdsL l (a ++ b) = (holdsL l a && holdsL l b)
  | [], b => by simp [holdsL]
  | y :: a, b => by simp [holdsL, holdsL_append l a b, Bool.and_assoc]
theorem holdsL_take (l r : List JV) (j : Nat) (hj : j < r.length) (h : holdsL l (r.take j) = true) : holdsL l (r.take (j + 1)) = l.any (fun x => holdsV x r[j]) := by
  rw [List.take_succ_eq_append_getElem hj, holdsL_append, h]; simp [holdsL]
theorem holdsL_stop (l r : List JV) (j : Nat) (hj : j < r.length) (h : l.any (fun x => holdsV x r[j]) = false) : holdsL l r = false := by
  conv => lhs; rw [← List.take_append_drop j r]
  rw [holdsL_append, List.drop_eq_getElem_cons hj]
  simp [holdsL, h]
theorem any_take (l : List JV) (p : JV → Bool) (i : Nat) (hi : i < l.length) : (l.take (i + 1)).any p = ((l.take i).any p || p l[i]) := by
  rw [List.take_succ_eq_append_getElem hi, List.any_append]; simp [List.any]

theorem boxes12 {w6 w' : World} {N : Nat} {a0 a1 a2 a3 a4 a5 b0 b1 b2 b3 b4 b5 : Value} (h : Below (N + 2) w6 w') (hA : w6.heap[N]? = some (.cells #[a0, a1, a2, a3, a4, a5] 26)) (hB : w6.heap[N + 1]? = some (.cells #[b0, b1, b2, b3, b4, b5] 26)) :
    w'.cell? ⟨N, 0, none⟩ = some a0 ∧ w'.cell? ⟨N, 1, none⟩ = some a1 ∧ w'.cell? ⟨N, 2, none⟩ = some a2 ∧ w'.cell? ⟨N, 3, none⟩ = some a3 ∧ w'.cell? ⟨N, 4, none⟩ = some a4 ∧ w'.cell? ⟨N, 5, none⟩ = some a5 ∧
      w'.cell? ⟨N + 1, 0, none⟩ = some b0 ∧ w'.cell? ⟨N + 1, 1, none⟩ = some b1 ∧ w'.cell? ⟨N + 1, 2, none⟩ = some b2 ∧ w'.cell? ⟨N + 1, 3, none⟩ = some b3 ∧ w'.cell? ⟨N + 1, 4, none⟩ = some b4 ∧ w'.cell? ⟨N + 1, 5, none⟩ = some b5 := by
  obtain ⟨p0, p1, p2, p3, p4, p5⟩ := box6 (kept_below h (by omega) hA)
  obtain ⟨q0, q1, q2, q3, q4, q5⟩ := box6 (kept_below h (by omega) hB)
  exact ⟨p0, p1, p2, p3, p4, p5, q0, q1, q2, q3, q4, q5⟩

theorem JRep.shape {w : World} {B : Nat} {v : JV} {d0 d1 d2 d3 d4 d5 : Value} (h : JRep w B v [d0, d1, d2, d3, d4, d5]) :
    ∃ k hh t A1 n1 m1 A2 n2 m2 A3 n3 m3, d0 = .int .i64 k ∧ d1 = .int .i64 hh ∧ d2 = .string t ∧ d3 = .slice A1 n1 m1 ∧ d4 = .slice A2 n2 m2 ∧ d5 = .slice A3 n3 m3 := by
  obtain ⟨k, hh, t, l, ks1, vs1⟩ := v
  have hJ : JVal w B (.mk k hh t l ks1 vs1) (.agg #[d0, d1, d2, d3, d4, d5]) := ⟨_, _, _, _, _, _, rfl, h⟩
  obtain ⟨_, _, _, e, _, _, _, ⟨A1, m1, rfl, _⟩, ⟨A2, m2, rfl, _⟩, ⟨A3, m3, rfl, _⟩⟩ := hJ.laid
  simp only [Value.agg.injEq, Array.mk.injEq, List.cons.injEq, and_true] at e
  obtain ⟨rfl, rfl, rfl, rfl, rfl, rfl⟩ := e
  exact ⟨_, _, _, _, _, _, _, _, _, _, _, _, rfl, rfl, rfl, rfl, rfl, rfl⟩
/-- Six stores into a block are nothing to what lies below it. -/
theorem below_set6 {a w : World} {B g : Nat} (h : Below B a w) (hg : B ≤ g) (v0 v1 v2 v3 v4 v5 : Value) :
    Below B a ((((((w.setCell ⟨g, 0, none⟩ v0).setCell ⟨g, 1, none⟩ v1).setCell ⟨g, 2, none⟩ v2).setCell ⟨g, 3, none⟩ v3).setCell ⟨g, 4, none⟩ v4).setCell ⟨g, 5, none⟩ v5) :=
  ((((((h.setCell hg _).setCell hg _).setCell hg _).setCell hg _).setCell hg _).setCell hg _)

set_option maxRecDepth 100000 in
set_option maxHeartbeats 4000000 in
theorem holds_list (h h' : Int) (t t' : ByteArray) (l l' vs vs' : List JV) (ks ks' : List ByteArray) (ih : ∀ y ∈ l', HoldsC y) (vx vy : Value) (w : World) (hx : JVal w w.heap.size (.mk 5 h t l ks vs) vx) (hy : JVal w w.heap.size (.mk 5 h' t' l' ks' vs') vy) (gl : GoodL l) (gl' : GoodL l') :
    Calls Tryz.prog 115 #[vx, vy] w fun e w' => e = .returned (.bool (holdsL l l')) ∧ Below w.heap.size w w' := by
  obtain ⟨vl, vk, vv, rfl, _, _, _, ⟨A, c, rfl, hc1, hc2, hl⟩, _⟩ := hx.laid
  obtain ⟨vl', vk', vv', rfl, _, _, _, ⟨A', c', rfl, hc1', hc2', hl'⟩, _⟩ := hy.laid
  clear hx hy
  obtain ⟨hX, hY⟩ := two_new w (.cells #[.int .i64 5, .int .i64 h, .string t, .slice A l.length c, vk, vv] 26) (.cells #[.int .i64 5, .int .i64 h', .string t', .slice A' l'.length c', vk', vv'] 26)
  have hB := ((Below.refl w.heap.size w).alloc (Nat.le_refl _) (.cells #[.int .i64 5, .int .i64 h, .string t, .slice A l.length c, vk, vv] 26)).alloc (by simp) (.cells #[.int .i64 5, .int .i64 h', .string t', .slice A' l'.length c', vk', vv'] 26)
  have hsz : w.heap.size + 2 ≤ ((w.alloc (.cells #[.int .i64 5, .int .i64 h, .string t, .slice A l.length c, vk, vv] 26)).alloc (.cells #[.int .i64 5, .int .i64 h', .string t', .slice A' l'.length c', vk', vv'] 26)).heap.size := by simp
  generalize hn : l.length = n at *
  generalize hn' : l'.length = n' at *
  have HN := Lib.hid hn
  have HN' := Lib.hid hn'
  have HL := Lib.hid hl
  have HL' := Lib.hid hl'
  clear hn hn' hl hl'
  go_enter Tryz.func115, Tryz.ntmps115
  go_upto_region 1 with (fail)
  generalize ((w.alloc (.cells #[.int .i64 5, .int .i64 h, .string t, .slice A n c, vk, vv] 26)).alloc (.cells #[.int .i64 5, .int .i64 h', .string t', .slice A' n' c', vk', vv'] 26)) = w2 at *
  obtain ⟨p0, p1, p2, p3, p4, p5, q0, q1, q2, q3, q4, q5⟩ := boxes12 (Below.refl _ w2) hX hY
  go_wp2_with fail
  go_loopw [35] (fun i wr => ∃ j : Nat, j ≤ n' ∧ i = .int .i64 j ∧ holdsL l (l'.take j) = true ∧ Below (w.heap.size + 2) w2 wr) (fun i _ => n' - (intOf i).toNat)
  case atStart => exact ⟨0, Nat.zero_le _, rfl, by simp [holdsL], Below.refl _ _⟩
  case round =>
    obtain ⟨j, hj, rfl, hjt, hbr⟩ := hrel
    obtain ⟨wo, rfl⟩ : ∃ wo, wo = wr := ⟨_, rfl⟩
    obtain ⟨p0, p1, p2, p3, p4, p5, q0, q1, q2, q3, q4, q5⟩ := boxes12 hbr hX hY
    by_cases hjn : j < n'
    · have hjl : j < l'.length := by rw [HN'.out]; exact hjn
      obtain ⟨b2, o2, rfl, hJ⟩ : ∃ b o, A' = some ⟨b, o, none⟩ ∧ JCells w w.heap.size l' b o := by
        rcases HL'.out with h0 | h0
        · omega
        · exact h0
      have hbw : Below w.heap.size w wo := hB.trans (hbr.mono (by omega))
      obtain ⟨hb2, d0, d1, d2, d3, d4, d5, hRep, y0, y1, y2, y3, y4, y5⟩ := (JCells.below hbw (Nat.le_refl _) l' b2 o2 hJ).at6 j hjl
      clear hJ
      obtain ⟨k1, h1, t1, A1, n1, m1, A2, n2, m2, A3, n3, m3, rfl, rfl, rfl, rfl, rfl, rfl⟩ := hRep.shape
      have hRep1 := hRep.below (B' := wo.heap.size) (Below.refl wo.heap.size wo |>.mono (Nat.le_trans (by omega) hbr.size)) (by have := hbr.size; omega)
      go_upto_region 9 with (fail)
      have hD := heap_alloc_new wo (.cells #[.int .i64 k1, .int .i64 h1, .string t1, .slice A1 n1 m1, .slice A2 n2 m2, .slice A3 n3 m3] 26)
      have hbx := (Below.refl wo.heap.size wo).alloc (Nat.le_refl _) (.cells #[.int .i64 k1, .int .i64 h1, .string t1, .slice A1 n1 m1, .slice A2 n2 m2, .slice A3 n3 m3] 26)
      have hwr : w.heap.size + 2 ≤ wo.heap.size := Nat.le_trans hsz hbr.size
      have hszx : wo.heap.size + 1 ≤ (wo.alloc (.cells #[.int .i64 k1, .int .i64 h1, .string t1, .slice A1 n1 m1, .slice A2 n2 m2, .slice A3 n3 m3] 26)).heap.size := by simp
      generalize wo.alloc (.cells #[.int .i64 k1, .int .i64 h1, .string t1, .slice A1 n1 m1, .slice A2 n2 m2, .slice A3 n3 m3] 26) = wx at *
      have hbx2 : Below (w.heap.size + 2) w2 wx := hbr.trans (hbx.mono hwr)
      clear p0 p1 p2 p3 p4 p5 q0 q1 q2 q3 q4 q5 y0 y1 y2 y3 y4 y5
      obtain ⟨p0, p1, p2, p3, p4, p5, q0, q1, q2, q3, q4, q5⟩ := boxes12 hbx2 hX hY
      have hC : HoldsC l'[j] := ih _ (List.getElem_mem hjl)
      have hG : Good l'[j] := gl'.get _ (List.getElem_mem hjl)
      obtain ⟨y, hy⟩ : ∃ y, l'[j] = y := ⟨_, rfl⟩
      rw [hy] at hC hRep1 hG
      have HY := Lib.hid hy
      have HC := Lib.hid hC
      have HR1 := Lib.hid hRep1
      clear hy hC hRep hRep1
      go_wp2_with fail
      go_loopw [42, 7] (fun i b wy => ∃ m : Nat, m ≤ n ∧ i = .int .i64 m ∧ b = .bool ((l.take m).any (fun x => holdsV x y)) ∧ Below (wo.heap.size + 1) wx wy) (fun i _ _ => n - (intOf i).toNat)
      case atStart => exact ⟨0, Nat.zero_le _, rfl, by simp, Below.refl _ _⟩
      case round =>
        obtain ⟨m, hm, rfl, rfl, hby⟩ := hrel
        obtain ⟨wy, rfl⟩ : ∃ wy, wy = wr := ⟨_, rfl⟩
        obtain ⟨z, hz⟩ : ∃ z, (l.take m).any (fun x => holdsV x y) = z := ⟨_, rfl⟩
        rw [hz]
        have HZ := Lib.hid hz
        clear hz
        have hby2 : Below (w.heap.size + 2) w2 wy := hbx2.trans (hby.mono (by omega))
        by_cases hmn : m < n
        · have hml : m < l.length := by rw [HN.out]; exact hmn
          obtain ⟨b3, o3, rfl, hJ⟩ : ∃ b o, A = some ⟨b, o, none⟩ ∧ JCells w w.heap.size l b o := by
            rcases HL.out with h0 | h0
            · omega
            · exact h0
          have hbw2 : Below w.heap.size w wy := hB.trans (hby2.mono (by omega))
          obtain ⟨hb3, d0, d1, d2, d3, d4, d5, hRep, y0, y1, y2, y3, y4, y5⟩ := (JCells.below hbw2 (Nat.le_refl _) l b3 o3 hJ).at6 m hml
          clear hJ
          obtain ⟨k2, h2, t2, A4, n4, m4, A5, n5, m5, A6, n6, m6, rfl, rfl, rfl, rfl, rfl, rfl⟩ := hRep.shape
          have hRep2 := hRep.below (B' := wy.heap.size) (Below.refl w.heap.size wy) (by have := hby2.size; omega)
          have hany : (l.take (m + 1)).any (fun x => holdsV x y) = (z || holdsV l[m] y) := by rw [any_take _ _ _ hml, HZ.out]
          have HA := Lib.hid hany
          clear hany hRep
          have hgm : Good l[m] := gl.get _ (List.getElem_mem hml)
          go_upto_region 13 with (fail)
          have hE := heap_alloc_new wy (.cells #[.int .i64 k2, .int .i64 h2, .string t2, .slice A4 n4 m4, .slice A5 n5 m5, .slice A6 n6 m6] 26)
          have hbz := (Below.refl wy.heap.size wy).alloc (Nat.le_refl _) (.cells #[.int .i64 k2, .int .i64 h2, .string t2, .slice A4 n4 m4, .slice A5 n5 m5, .slice A6 n6 m6] 26)
          have hszz : wy.heap.size + 1 ≤ (wy.alloc (.cells #[.int .i64 k2, .int .i64 h2, .string t2, .slice A4 n4 m4, .slice A5 n5 m5, .slice A6 n6 m6] 26)).heap.size := by simp
          generalize wy.alloc (.cells #[.int .i64 k2, .int .i64 h2, .string t2, .slice A4 n4 m4, .slice A5 n5 m5, .slice A6 n6 m6] 26) = wz at *
          have hyz : Below (wo.heap.size + 1) wx wz := hby.trans (hbz.mono (by have := hby.size; omega))
          have hD2 := kept_below hyz (by omega) hD
          obtain ⟨x0, x1, x2, x3, x4, x5⟩ := box6 hE
          obtain ⟨v0, v1, v2, v3, v4, v5⟩ := box6 hD2
          cases z with
          | true =>
            go_wp2_with fail
            exact ⟨⟨m + 1, by omega, by go_num, by rw [HA.out]; rfl, hyz⟩, by simp [intOf]; omega⟩
          | false =>
            have c := HC.out l[m] (.agg #[.int .i64 k2, .int .i64 h2, .string t2, .slice A4 n4 m4, .slice A5 n5 m5, .slice A6 n6 m6]) (.agg #[.int .i64 k1, .int .i64 h1, .string t1, .slice A1 n1 m1, .slice A2 n2 m2, .slice A3 n3 m3]) wz
              ⟨_, _, _, _, _, _, rfl, hRep2.below hbz (by omega)⟩ ⟨_, _, _, _, _, _, rfl, HR1.out.below (hbx.trans ((hyz.mono (by omega)))) (by have := hby.size; omega)⟩ hgm hG
            have C := Lib.hid c
            clear c
            go_wp2_with (go_at_call 115; refine C.out.mono ?_; rintro e wc ⟨rfl, hbc⟩)
            exact ⟨⟨m + 1, by omega, by go_num, by rw [HA.out]; simp, hyz.trans (hbc.mono (by have := hby.size; omega))⟩, by simp [intOf]; omega⟩
        · have e : l.take m = l := List.take_of_length_le (by rw [HN.out]; omega)
          have hz2 : l.any (fun x => holdsV x l'[j]) = z := by rw [HY.out, ← HZ.out, e]
          have HZ2 := Lib.hid hz2
          clear hz2
          cases z with
          | true =>
            go_wp2_with fail
            exact ⟨⟨j + 1, by omega, by go_num, by rw [holdsL_take l l' j hjl hjt, HZ2.out], hby2⟩, by simp [intOf]; omega⟩
          | false =>
            go_wp2_with fail
            go_ret
            refine ⟨?_, hB.trans (hby2.mono (by omega))⟩
            rw [holdsL_stop l l' j hjl HZ2.out]
            rfl
    · go_wp2_with fail
      go_ret
      refine ⟨?_, hB.trans (hbr.mono (by omega))⟩
      have e : l'.take j = l' := List.take_of_length_le (by rw [HN'.out]; omega)
      rw [e] at hjt
      rw [hjt]
      rfl
end Go.Proofs.YtmjegeipnaalnaaGreatDoor
