/- FnModRest: its walk. -/
import Derived.Test.YtmjegeipnaalnaaGreatDoorGuard
import Derived.Test.YtmjegeipnaalnaaGreatDoorOps
import Derived.Test.YtmjegeipnaalnaaGreatDoorSameN
import Derived.Deep.RegionHeld3
import Derived.Lib.QuietBelow
namespace Go.Proofs.YtmjegeipnaalnaaGreatDoor
open Go.RowKit

theorem JVal.at {w w' : World} {v : JV} {x : Value} (h : JVal w w.heap.size v x) (hb : Below w.heap.size w w') : JVal w' w'.heap.size v x := h.below hb hb.size
theorem Tabs.at {w w' : World} (h : Tabs w) (hb : Below w.heap.size w w') : Tabs w' := h.grown (r := none) (by simp) (by simp) (grownBy_below hb none)
theorem wholeB_spec {k h : Int} {t : ByteArray} {l vs : List JV} {ks : List ByteArray} (hw : wholeB (.mk k h t l ks vs) = true) : k = 3 ∧ -33554432 ≤ h ∧ h ≤ 33554432 ∧ ∃ p, h = 2 * p := by
  unfold wholeB numB at hw
  simp only [JV.kind, JV.half, Bool.and_eq_true, beq_iff_eq] at hw
  obtain ⟨⟨⟨⟨_, h1⟩, h2⟩, h3⟩, h4⟩ := hw
  refine ⟨h1, of_decide_eq_true h2, of_decide_eq_true h3, h.tdiv 2, ?_⟩
  have := Int.mul_tdiv_add_tmod h 2
  omega

theorem after_call {B : Nat} {a b c : World} (hb : Below b.heap.size b c) (h : Below B a b) (hB : B ≤ a.heap.size) : Below B a c := h.trans (hb.mono (Nat.le_trans hB h.size))
theorem alloc_keep {B : Nat} {a b : World} (h : Below B a b) (hB : B ≤ a.heap.size) (o : Obj) : Below B a (b.alloc o) := h.alloc (Nat.le_trans hB h.size) o
theorem lt_of_at {w : World} {k : Nat} {o : Obj} (h : w.heap[k]? = some o) : k < w.heap.size := (Array.getElem?_eq_some_iff.1 h).1
theorem heap_alloc_drew (w : World) (o : Obj) : (w.alloc o).drew.heap[w.heap.size]? = some o := heap_alloc_new w o
theorem set7 {w : World} {g : Nat} {a0 a1 a2 a3 a4 a5 a6 v0 v1 v2 v3 v4 v5 v6 : Value} {T : TypeId} (h : w.heap[g]? = some (.cells #[a0, a1, a2, a3, a4, a5, a6] T)) :
    (((((((w.setCell ⟨g, 0, none⟩ v0).setCell ⟨g, 1, none⟩ v1).setCell ⟨g, 2, none⟩ v2).setCell ⟨g, 3, none⟩ v3).setCell ⟨g, 4, none⟩ v4).setCell ⟨g, 5, none⟩ v5).setCell ⟨g, 6, none⟩ v6).heap[g]? = some (.cells #[v0, v1, v2, v3, v4, v5, v6] T (0, 0)) := by
  have h0 : (w.setCell ⟨g, 0, none⟩ v0).heap[g]? = some (.cells #[v0, a1, a2, a3, a4, a5, a6] T (0, 0)) := by rw [heap_setCell_same _ g 0 _ _ v0 h]; rfl
  have h1 : ((w.setCell ⟨g, 0, none⟩ v0).setCell ⟨g, 1, none⟩ v1).heap[g]? = some (.cells #[v0, v1, a2, a3, a4, a5, a6] T (0, 0)) := by rw [heap_setCell_same _ g 1 _ _ v1 h0]; rfl
  have h2 : (((w.setCell ⟨g, 0, none⟩ v0).setCell ⟨g, 1, none⟩ v1).setCell ⟨g, 2, none⟩ v2).heap[g]? = some (.cells #[v0, v1, v2, a3, a4, a5, a6] T (0, 0)) := by rw [heap_setCell_same _ g 2 _ _ v2 h1]; rfl
  have h3 : ((((w.setCell ⟨g, 0, none⟩ v0).setCell ⟨g, 1, none⟩ v1).setCell ⟨g, 2, none⟩ v2).setCell ⟨g, 3, none⟩ v3).heap[g]? = some (.cells #[v0, v1, v2, v3, a4, a5, a6] T (0, 0)) := by rw [heap_setCell_same _ g 3 _ _ v3 h2]; rfl
  have h4 : (((((w.setCell ⟨g, 0, none⟩ v0).setCell ⟨g, 1, none⟩ v1).setCell ⟨g, 2, none⟩ v2).setCell ⟨g, 3, none⟩ v3).setCell ⟨g, 4, none⟩ v4).heap[g]? = some (.cells #[v0, v1, v2, v3, v4, a5, a6] T (0, 0)) := by rw [heap_setCell_same _ g 4 _ _ v4 h3]; rfl
  have h5 : ((((((w.setCell ⟨g, 0, none⟩ v0).setCell ⟨g, 1, none⟩ v1).setCell ⟨g, 2, none⟩ v2).setCell ⟨g, 3, none⟩ v3).setCell ⟨g, 4, none⟩ v4).setCell ⟨g, 5, none⟩ v5).heap[g]? = some (.cells #[v0, v1, v2, v3, v4, v5, a6] T (0, 0)) := by rw [heap_setCell_same _ g 5 _ _ v5 h4]; rfl
  have h6 : (((((((w.setCell ⟨g, 0, none⟩ v0).setCell ⟨g, 1, none⟩ v1).setCell ⟨g, 2, none⟩ v2).setCell ⟨g, 3, none⟩ v3).setCell ⟨g, 4, none⟩ v4).setCell ⟨g, 5, none⟩ v5).setCell ⟨g, 6, none⟩ v6).heap[g]? = some (.cells #[v0, v1, v2, v3, v4, v5, v6] T (0, 0)) := by rw [heap_setCell_same _ g 6 _ _ v6 h5]; rfl
  exact h6
theorem boxes18 {w6 w' : World} {N : Nat} {a0 a1 a2 a3 a4 a5 b0 b1 b2 b3 b4 b5 c0 c1 c2 c3 c4 c5 : Value} (h : Below (N + 3) w6 w') (hA : w6.heap[N]? = some (.cells #[a0, a1, a2, a3, a4, a5] 26)) (hB : w6.heap[N + 1]? = some (.cells #[b0, b1, b2, b3, b4, b5] 26)) (hC : w6.heap[N + 2]? = some (.cells #[c0, c1, c2, c3, c4, c5] 26)) :
    Below (N + 3) w6 w' ∧ w'.cell? ⟨N, 0, none⟩ = some a0 ∧ w'.cell? ⟨N, 1, none⟩ = some a1 ∧ w'.cell? ⟨N, 2, none⟩ = some a2 ∧ w'.cell? ⟨N, 3, none⟩ = some a3 ∧ w'.cell? ⟨N, 4, none⟩ = some a4 ∧ w'.cell? ⟨N, 5, none⟩ = some a5 ∧
      w'.cell? ⟨N + 1, 0, none⟩ = some b0 ∧ w'.cell? ⟨N + 1, 1, none⟩ = some b1 ∧ w'.cell? ⟨N + 1, 2, none⟩ = some b2 ∧ w'.cell? ⟨N + 1, 3, none⟩ = some b3 ∧ w'.cell? ⟨N + 1, 4, none⟩ = some b4 ∧ w'.cell? ⟨N + 1, 5, none⟩ = some b5 ∧
      w'.cell? ⟨N + 1 + 1, 0, none⟩ = some c0 ∧ w'.cell? ⟨N + 1 + 1, 1, none⟩ = some c1 ∧ w'.cell? ⟨N + 1 + 1, 2, none⟩ = some c2 ∧ w'.cell? ⟨N + 1 + 1, 3, none⟩ = some c3 ∧ w'.cell? ⟨N + 1 + 1, 4, none⟩ = some c4 ∧ w'.cell? ⟨N + 1 + 1, 5, none⟩ = some c5 := by
  obtain ⟨p0, p1, p2, p3, p4, p5⟩ := box6 (kept_below h (by omega) hA)
  obtain ⟨q0, q1, q2, q3, q4, q5⟩ := box6 (kept_below h (by omega) hB)
  obtain ⟨r0, r1, r2, r3, r4, r5⟩ := box6 (kept_below h (by omega) hC)
  exact ⟨h, p0, p1, p2, p3, p4, p5, q0, q1, q2, q3, q4, q5, r0, r1, r2, r3, r4, r5⟩
theorem Ops_mod (p q s : Int) (h1 : 0 ≤ p) (h2 : p ≤ 16777216) (h3 : 1 ≤ q) (h4 : q ≤ 16777216) (h5 : 0 ≤ s) (h6 : s ≤ 16777216) :
    (0 ≤ q * s ∧ q * s ≤ 1125899906842624) ∧ DoorInt 50 q s (q * s) ∧ DoorInt 51 p q (p % q) ∧ DoorInt 49 (q * s) (p % q) (q * s + p % q) ∧ DoorInt 51 (q * s + p % q) q (p % q) := by
  have hm : 0 ≤ q * s := Int.mul_nonneg (by omega) h5
  have hM : q * s ≤ 281474976710656 := by
    have := Int.mul_le_mul h4 h6 h5 (by omega)
    omega
  have hr0 := Int.emod_nonneg p (show q ≠ 0 by omega)
  have hr1 := Int.emod_lt_of_pos p (show 0 < q by omega)
  refine ⟨⟨hm, by omega⟩, mul_door q s h5 h6 (by omega) h4 (fun hs => ?_) ?_ hm hM (fun hs => ?_), mod_door p q h3 (by omega) h1 (by omega), add_door (q * s) (p % q) hr0 (by omega) hm hM, ?_⟩
  · rw [Int.mul_tdiv_cancel _ (by omega)]; simp
  · exact IntWalk.wrap64_in _ (by omega)
  · rw [Int.mul_ediv_cancel _ (by omega)]; simp
  · have e : (q * s + p % q) % q = p % q := by rw [Int.add_comm, Int.add_mul_emod_self_left, Int.emod_emod]
    have d := mod_door (q * s + p % q) q h3 (by omega) (by omega) (by omega)
    rw [e] at d
    exact d

set_option maxRecDepth 100000 in
set_option maxHeartbeats 8000000 in
theorem ModRest_walk (a b c : JV) (x y z : Value) (w : World) (hx : JVal w w.heap.size a x) (hy : JVal w w.heap.size b y) (hz : JVal w w.heap.size c z) (hT : Tabs w) :
    Calls Tryz.prog 5 #[x, y, z] w fun e w' => e = .returned (.bool true) ∧ Below w.heap.size w w' := by
  obtain ⟨ka, ha, ta, la', ksa, vsa⟩ := a
  obtain ⟨kb, hb', tb, lb', ksb, vsb⟩ := b
  obtain ⟨kc, hc', tc, lc', ksc, vsc⟩ := c
  obtain ⟨la, xa, va, rfl, _, ⟨_, _⟩, _⟩ := hx.laid
  obtain ⟨lb, xb, vb, rfl, _, ⟨_, _⟩, _⟩ := hy.laid
  obtain ⟨lc, xc, vc, rfl, _, ⟨_, _⟩, _⟩ := hz.laid
  obtain ⟨hA, hB, hC⟩ := three_new w (.cells #[.int .i64 ka, .int .i64 ha, .string ta, la, xa, va] 26) (.cells #[.int .i64 kb, .int .i64 hb', .string tb, lb, xb, vb] 26) (.cells #[.int .i64 kc, .int .i64 hc', .string tc, lc, xc, vc] 26)
  have hw := (((Below.refl w.heap.size w).alloc (Nat.le_refl _) (.cells #[.int .i64 ka, .int .i64 ha, .string ta, la, xa, va] 26)).alloc (by simp) (.cells #[.int .i64 kb, .int .i64 hb', .string tb, lb, xb, vb] 26)).alloc (by simp; omega) (.cells #[.int .i64 kc, .int .i64 hc', .string tc, lc, xc, vc] 26)
  have hlt : w.heap.size + 2 < (((w.alloc (.cells #[.int .i64 ka, .int .i64 ha, .string ta, la, xa, va] 26)).alloc (.cells #[.int .i64 kb, .int .i64 hb', .string tb, lb, xb, vb] 26)).alloc (.cells #[.int .i64 kc, .int .i64 hc', .string tc, lc, xc, vc] 26)).heap.size := by simp
  go_enter Tryz.func5, Tryz.ntmps5
  go_upto_region 1 with (fail)
  generalize (((w.alloc (.cells #[.int .i64 ka, .int .i64 ha, .string ta, la, xa, va] 26)).alloc (.cells #[.int .i64 kb, .int .i64 hb', .string tb, lb, xb, vb] 26)).alloc (.cells #[.int .i64 kc, .int .i64 hc', .string tc, lc, xc, vc] 26)) = w0 at *
  obtain ⟨p0, p1, p2, p3, p4, p5⟩ := box6 hA
  go_wp2_with fail
  refine (zzFits1_walk _ _ w0 (hx.at hw)).mono ?_
  rintro e w1 ⟨z1, rfl, hb⟩
  replace hA := kept_below hb (by omega) hA
  replace hB := kept_below hb (by omega) hB
  replace hC := kept_below hb (by omega) hC
  replace hw := hw.trans (hb.mono (by omega))
  replace hlt : w.heap.size + 2 < w1.heap.size := by have := hb.size; omega
  clear hb p0 p1 p2 p3 p4 p5
  cases z1
  · go_wp2_with fail
    go_ret
    exact ⟨rfl, hw⟩
  obtain ⟨p0, p1, p2, p3, p4, p5⟩ := box6 hB
  go_wp2_with fail
  refine (zzFits1_walk _ _ w1 (hy.at hw)).mono ?_
  rintro e w2 ⟨z1, rfl, hb⟩
  replace hA := kept_below hb (by omega) hA
  replace hB := kept_below hb (by omega) hB
  replace hC := kept_below hb (by omega) hC
  replace hw := hw.trans (hb.mono (by omega))
  replace hlt : w.heap.size + 2 < w2.heap.size := by have := hb.size; omega
  clear hb p0 p1 p2 p3 p4 p5
  cases z1
  · go_wp2_with fail
    go_ret
    exact ⟨rfl, hw⟩
  obtain ⟨p0, p1, p2, p3, p4, p5⟩ := box6 hC
  go_wp2_with fail
  refine (zzFits1_walk _ _ w2 (hz.at hw)).mono ?_
  rintro e w3 ⟨z1, rfl, hb⟩
  replace hA := kept_below hb (by omega) hA
  replace hB := kept_below hb (by omega) hB
  replace hC := kept_below hb (by omega) hC
  replace hw := hw.trans (hb.mono (by omega))
  replace hlt : w.heap.size + 2 < w3.heap.size := by have := hb.size; omega
  clear hb p0 p1 p2 p3 p4 p5
  cases z1
  · go_wp2_with fail
    go_ret
    exact ⟨rfl, hw⟩
  go_upto_region 3 with (fail)
  obtain ⟨p0, p1, p2, p3, p4, p5⟩ := box6 hA
  go_wp2_with fail
  refine (whole_walk _ _ w3 (hx.at hw) (hT.at hw)).mono ?_
  rintro e w4 ⟨rfl, hb⟩
  replace hA := kept_below hb (by omega) hA
  replace hB := kept_below hb (by omega) hB
  replace hC := kept_below hb (by omega) hC
  replace hw := hw.trans (hb.mono (by omega))
  replace hlt : w.heap.size + 2 < w4.heap.size := by have := hb.size; omega
  clear hb p0 p1 p2 p3 p4 p5
  cases q4 : wholeB (JV.mk ka ha ta la' ksa vsa)
  · go_wp2_with fail
    go_ret
    exact ⟨rfl, hw⟩
  obtain ⟨rfl, _, _, r4, rfl⟩ := wholeB_spec q4
  clear q4
  obtain ⟨p0, p1, p2, p3, p4, p5⟩ := box6 hB
  go_wp2_with fail
  refine (whole_walk _ _ w4 (hy.at hw) (hT.at hw)).mono ?_
  rintro e w5 ⟨rfl, hb⟩
  replace hA := kept_below hb (by omega) hA
  replace hB := kept_below hb (by omega) hB
  replace hC := kept_below hb (by omega) hC
  replace hw := hw.trans (hb.mono (by omega))
  replace hlt : w.heap.size + 2 < w5.heap.size := by have := hb.size; omega
  clear hb p0 p1 p2 p3 p4 p5
  cases q5 : wholeB (JV.mk kb hb' tb lb' ksb vsb)
  · go_wp2_with fail
    go_ret
    exact ⟨rfl, hw⟩
  obtain ⟨rfl, _, _, r5, rfl⟩ := wholeB_spec q5
  clear q5
  obtain ⟨p0, p1, p2, p3, p4, p5⟩ := box6 hC
  go_wp2_with fail
  refine (whole_walk _ _ w5 (hz.at hw) (hT.at hw)).mono ?_
  rintro e w6 ⟨rfl, hb⟩
  replace hA := kept_below hb (by omega) hA
  replace hB := kept_below hb (by omega) hB
  replace hC := kept_below hb (by omega) hC
  replace hw := hw.trans (hb.mono (by omega))
  replace hlt : w.heap.size + 2 < w6.heap.size := by have := hb.size; omega
  clear hb p0 p1 p2 p3 p4 p5
  cases q6 : wholeB (JV.mk kc hc' tc lc' ksc vsc)
  · go_wp2_with fail
    go_ret
    exact ⟨rfl, hw⟩
  obtain ⟨rfl, _, _, r6, rfl⟩ := wholeB_spec q6
  clear q6
  obtain ⟨p0, p1, p2, p3, p4, p5⟩ := box6 hA
  obtain ⟨m0, m1, m2, m3, m4, m5⟩ := box6 hB
  obtain ⟨n0, n1, n2, n3, n4, n5⟩ := box6 hC
  by_cases g1 : 2 * r4 < 0
  · go_wp2_with fail
    go_ret
    exact ⟨rfl, hw⟩
  by_cases g2 : 2 * r5 ≤ 0
  · go_wp2_with fail
    go_ret
    exact ⟨rfl, hw⟩
  by_cases g3 : 2 * r6 < 0
  · go_wp2_with fail
    go_ret
    exact ⟨rfl, hw⟩
  go_upto_region 5 with (fail)
  clear p0 p1 p2 p3 p4 p5 m0 m1 m2 m3 m4 m5 n0 n1 n2 n3 n4 n5
  have hq := Ops_mod r4 r5 r6 (by omega) (by omega) (by omega) (by omega) (by omega) (by omega)
  obtain ⟨d1, d2, d3, d4, d5⟩ := hq
  have D1 := Lib.hid d1
  have l1 : 0 ≤ r5 * r6 := d1.1
  have l2 : r5 * r6 ≤ 281474976710656 := by have := Int.mul_le_mul (show r5 ≤ 16777216 by omega) (show r6 ≤ 16777216 by omega) (by omega) (by omega); omega
  have l3 : 0 ≤ r4 % r5 := Int.emod_nonneg r4 (by omega)
  have l4 : r4 % r5 < r5 := Int.emod_lt_of_pos r4 (by omega)
  have D2 := Lib.hid d2
  have D3 := Lib.hid d3
  have D4 := Lib.hid d4
  have D5 := Lib.hid d5
  clear d1 d2 d3 d4 d5 hT hx hy hz
  have HS := Lib.hid (fun w' (h : Below (w.heap.size + 3) w6 w') => boxes18 h hA hB hC)
  have hw6 : w.heap.size + 3 ≤ w6.heap.size := by omega
  go_cut [7] (fun s7 wx => ∃ g : Nat, s7 = .pointer (some ⟨g, 0, none⟩) ∧ wx.heap[g]? = some (.cells #[.int .i64 3, .int .i64 (2 * (r5 * r6 + r4 % r5)), .string ⟨#[]⟩, .slice none 0 0, .slice none 0 0, .slice none 0 0, .int .i64 0] 34 (0, 0)) ∧ Below (w.heap.size + 3) w6 wx)
  case first =>
    clear hA hB hC
    go_region_held3 (fun w' => Below (w.heap.size + 3) w6 w' ∧ w'.cell? ⟨w.heap.size, 0, none⟩ = some (.int .i64 3) ∧ w'.cell? ⟨w.heap.size, 1, none⟩ = some (.int .i64 (2 * r4)) ∧ w'.cell? ⟨w.heap.size, 2, none⟩ = some (.string ta) ∧ w'.cell? ⟨w.heap.size, 3, none⟩ = some la ∧ w'.cell? ⟨w.heap.size, 4, none⟩ = some xa ∧ w'.cell? ⟨w.heap.size, 5, none⟩ = some va ∧ w'.cell? ⟨w.heap.size + 1, 0, none⟩ = some (.int .i64 3) ∧ w'.cell? ⟨w.heap.size + 1, 1, none⟩ = some (.int .i64 (2 * r5)) ∧ w'.cell? ⟨w.heap.size + 1, 2, none⟩ = some (.string tb) ∧ w'.cell? ⟨w.heap.size + 1, 3, none⟩ = some lb ∧ w'.cell? ⟨w.heap.size + 1, 4, none⟩ = some xb ∧ w'.cell? ⟨w.heap.size + 1, 5, none⟩ = some vb ∧ w'.cell? ⟨w.heap.size + 1 + 1, 0, none⟩ = some (.int .i64 3) ∧ w'.cell? ⟨w.heap.size + 1 + 1, 1, none⟩ = some (.int .i64 (2 * r6)) ∧ w'.cell? ⟨w.heap.size + 1 + 1, 2, none⟩ = some (.string tc) ∧ w'.cell? ⟨w.heap.size + 1 + 1, 3, none⟩ = some lc ∧ w'.cell? ⟨w.heap.size + 1 + 1, 4, none⟩ = some xc ∧ w'.cell? ⟨w.heap.size + 1 + 1, 5, none⟩ = some vc)
      (first
        | with_reducible exact HS.out _ h19
        | with_reducible exact HS.out _ (alloc_keep h19 hw6 _)
        | with_reducible exact HS.out _ h21
        | with_reducible exact HS.out _ (alloc_keep h21 hw6 _)
        | with_reducible exact HS.out _ h20
        | with_reducible exact HS.out _ (alloc_keep h20 hw6 _)
        | (with_reducible refine HS.out _ (Below.setCell (Below.setCell (Below.setCell (Below.setCell (Below.setCell (Below.setCell (Below.setCell h19 ?_ _) ?_ _) ?_ _) ?_ _) ?_ _) ?_ _) ?_ _); all_goals (simp; omega))
        | with_reducible exact HS.out _ (Below.refl _ _).drew
        | with_reducible exact HS.out _ (alloc_keep (Below.refl _ _) hw6 _).drew)
      (first
        | (go_at_call 20; refine (OpMul_walk r5 r6 (r5 * r6) _ _ _ _ _ _ _ _ _ (by omega) (by omega) (by omega) (by omega) D1.out.1 D1.out.2 D2.out).mono ?_; rintro e w20 ⟨rfl, hb20⟩; unfold numR; obtain ⟨h20, s20⟩ : Below (w.heap.size + 3) w6 w20 ∧ w6.heap.size ≤ w20.heap.size := by { have q := after_call hb20 (by (first | with_reducible exact (Below.refl _ _).drew | with_reducible exact (alloc_keep (Below.refl _ _) hw6 _).drew)) hw6; exact ⟨q, q.size⟩ }; first | (have kz := kept_below hb20 (by simp) (heap_alloc_new _ _); have zlt20 := lt_of_at kz; obtain ⟨y0, y1, y2, y3, y4, y5, y6⟩ := box7 kz; obtain ⟨f0, f1, f2, f3, f4, f5, f6⟩ := frozen7 kz) | (have kz := kept_below hb20 (by simp) (heap_alloc_drew _ _); have zlt20 := lt_of_at kz; obtain ⟨y0, y1, y2, y3, y4, y5, y6⟩ := box7 kz; obtain ⟨f0, f1, f2, f3, f4, f5, f6⟩ := frozen7 kz) | (replace kz := kept_below hb20 (lt_of_at kz) kz; have zlt20 := lt_of_at kz; obtain ⟨y0, y1, y2, y3, y4, y5, y6⟩ := box7 kz; obtain ⟨f0, f1, f2, f3, f4, f5, f6⟩ := frozen7 kz) | skip)
        | (go_at_call 21; refine (OpMod_walk r4 r5 (r4 % r5) _ _ _ _ _ _ _ _ _ (by omega) (by omega) (by omega) (by omega) (by omega) (by omega) D3.out).mono ?_; rintro e w21 ⟨rfl, hb21⟩; unfold numR; obtain ⟨h21, s21⟩ : Below (w.heap.size + 3) w6 w21 ∧ w6.heap.size ≤ w21.heap.size := by { have q := after_call hb21 (by (first | with_reducible exact h20 | with_reducible exact alloc_keep h20 hw6 _)) hw6; exact ⟨q, q.size⟩ }; first | (have kz := kept_below hb21 (by simp) (heap_alloc_new _ _); have zlt21 := lt_of_at kz; obtain ⟨y0, y1, y2, y3, y4, y5, y6⟩ := box7 kz; obtain ⟨f0, f1, f2, f3, f4, f5, f6⟩ := frozen7 kz) | (have kz := kept_below hb21 (by simp) (heap_alloc_drew _ _); have zlt21 := lt_of_at kz; obtain ⟨y0, y1, y2, y3, y4, y5, y6⟩ := box7 kz; obtain ⟨f0, f1, f2, f3, f4, f5, f6⟩ := frozen7 kz) | (replace kz := kept_below hb21 (lt_of_at kz) kz; have zlt21 := lt_of_at kz; obtain ⟨y0, y1, y2, y3, y4, y5, y6⟩ := box7 kz; obtain ⟨f0, f1, f2, f3, f4, f5, f6⟩ := frozen7 kz) | skip)
        | (go_at_call 19; refine (OpAdd_walk (r5 * r6) (r4 % r5) (r5 * r6 + r4 % r5) _ _ _ _ _ _ _ _ _ (by omega) (by omega) (by omega) (by omega) (by omega) (by omega) D4.out).mono ?_; rintro e w19 ⟨rfl, hb19⟩; unfold numR; obtain ⟨h19, s19⟩ : Below (w.heap.size + 3) w6 w19 ∧ w6.heap.size ≤ w19.heap.size := by { have q := after_call hb19 (by (first | with_reducible exact h21 | with_reducible exact alloc_keep h21 hw6 _)) hw6; exact ⟨q, q.size⟩ }; first | (have kz := kept_below hb19 (by simp) (heap_alloc_new _ _); have zlt19 := lt_of_at kz; obtain ⟨y0, y1, y2, y3, y4, y5, y6⟩ := box7 kz; obtain ⟨f0, f1, f2, f3, f4, f5, f6⟩ := frozen7 kz) | (have kz := kept_below hb19 (by simp) (heap_alloc_drew _ _); have zlt19 := lt_of_at kz; obtain ⟨y0, y1, y2, y3, y4, y5, y6⟩ := box7 kz; obtain ⟨f0, f1, f2, f3, f4, f5, f6⟩ := frozen7 kz) | (replace kz := kept_below hb19 (lt_of_at kz) kz; have zlt19 := lt_of_at kz; obtain ⟨y0, y1, y2, y3, y4, y5, y6⟩ := box7 kz; obtain ⟨f0, f1, f2, f3, f4, f5, f6⟩ := frozen7 kz) | skip))
    all_goals
      go_wp2_with fail
      go_meet
      first
        | with_reducible exact ⟨_, rfl, heap_alloc_new _ _, alloc_keep h19 hw6 _⟩
        | exact ⟨_, rfl, set7 kz, Below.setCell (Below.setCell (Below.setCell (Below.setCell (Below.setCell (Below.setCell (Below.setCell h19 (by simp; omega) _) (by simp; omega) _) (by simp; omega) _) (by simp; omega) _) (by simp; omega) _) (by simp; omega) _) (by simp; omega) _⟩
  case rest =>
    obtain ⟨g, rfl, hg, hbc⟩ := hcut
    replace hA := kept_below hbc (by omega) hA
    replace hB := kept_below hbc (by omega) hB
    replace hC := kept_below hbc (by omega) hC
    replace hw := hw.trans (hbc.mono (by omega))
    replace hlt : w.heap.size + 2 < wc.heap.size := by have := hbc.size; omega
    have hglt := lt_of_at hg
    obtain ⟨p0, p1, p2, p3, p4, p5⟩ := box6 hB
    obtain ⟨y0, y1, y2, y3, y4, y5, y6⟩ := box7 hg
    go_upto_region 7 with (go_at_call 21; refine (OpMod_walk (r5 * r6 + r4 % r5) r5 (r4 % r5) _ _ _ _ _ _ _ _ _ (by omega) (by omega) (by omega) (by omega) (by omega) (by omega) D5.out).mono ?_; rintro e w7 ⟨rfl, hb⟩; unfold numR)
    replace hA := kept_below hb (by omega) hA
    replace hB := kept_below hb (by omega) hB
    replace hg := kept_below hb (by omega) hg
    replace hw := hw.trans (hb.mono (by omega))
    replace hlt : w.heap.size + 2 < w7.heap.size := by have := hb.size; omega
    replace hglt : g < w7.heap.size := by have := hb.size; omega
    have hR := heap_alloc_new w7 (.cells #[.int .i64 3, .int .i64 (2 * (r4 % r5)), .string ⟨#[]⟩, .slice none 0 0, .slice none 0 0, .slice none 0 0, .int .i64 0] 34)
    have hbr := (Below.refl w7.heap.size w7).alloc (Nat.le_refl _) (.cells #[.int .i64 3, .int .i64 (2 * (r4 % r5)), .string ⟨#[]⟩, .slice none 0 0, .slice none 0 0, .slice none 0 0, .int .i64 0] 34)
    replace hA := kept_below hbr (by omega) hA
    replace hB := kept_below hbr (by omega) hB
    replace hw := hw.trans (hbr.mono (by omega))
    clear hg hb hbc y0 y1 y2 y3 y4 y5 y6 p0 p1 p2 p3 p4 p5 hC
    generalize w7.alloc (.cells #[.int .i64 3, .int .i64 (2 * (r4 % r5)), .string ⟨#[]⟩, .slice none 0 0, .slice none 0 0, .slice none 0 0, .int .i64 0] 34) = wr at *
    obtain ⟨m0, m1, m2, m3, m4, m5⟩ := box6 hA
    obtain ⟨n0, n1, n2, n3, n4, n5⟩ := box6 hB
    obtain ⟨z0, z1, z2, z3, z4, z5, z6⟩ := box7 hR
    have qa0 := cell_regrown m0
    have qb0 := cell_regrown n0
    have qa1 := cell_regrown m1
    have qb1 := cell_regrown n1
    have qa2 := cell_regrown m2
    have qb2 := cell_regrown n2
    have qa3 := cell_regrown m3
    have qb3 := cell_regrown n3
    have qa4 := cell_regrown m4
    have qb4 := cell_regrown n4
    have qa5 := cell_regrown m5
    have qb5 := cell_regrown n5
    have qr0 := cell_regrown z0
    have qr1 := cell_regrown z1
    have qr2 := cell_regrown z2
    have qr3 := cell_regrown z3
    have qr4 := cell_regrown z4
    have qr5 := cell_regrown z5
    have qr6 := cell_regrown z6
    clear m0 m1 m2 m3 m4 m5 n0 n1 n2 n3 n4 n5 z0 z1 z2 z3 z4 z5 z6 hA hB hR hbr
    have cM := fun W => OpMod_walk r4 r5 (r4 % r5) (.string ta) la xa va (.string tb) lb xb vb W (by omega) (by omega) (by omega) (by omega) (by omega) (by omega) D3.out
    have cG := fun W => given_num (2 * (r4 % r5)) W (by omega) (by omega)
    unfold numR at cM
    unfold numR numV at cG
    have CM := Lib.hid cM
    have CG := Lib.hid cG
    clear cM cG
    have l5 : 0 ≤ 2 * (r4 % r5) := by omega
    have l6 : 2 * (r4 % r5) < 2 * r5 := by omega
    generalize r4 % r5 = m at *
    refine wp_region_quiet_below (by kernel_rfl) (by kernel_rfl) ?_
    repeat (go_big_quiet_step (first
      | (go_at_call 21; exact Calls.regrown_of (CM.out _))
      | (go_at_call 15; exact Calls.regrown_of (CG.out _))))
    refine wpQuiet_nil ?_
    intro w' hw'
    obtain ⟨⟨dq, osq⟩, rfl⟩ := hw'
    go_wp2
    go_ret
    exact ⟨by first | rfl | simp, hw.trans ((below_regrown wr dq osq).mono hw.size)⟩
end Go.Proofs.YtmjegeipnaalnaaGreatDoor
