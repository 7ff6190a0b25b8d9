/- FnSetApart: its walk where all is asked. -/
import Derived.Test.YtmjegeipnaalnaaGreatDoorSaApL
namespace Go.Proofs.YtmjegeipnaalnaaGreatDoor
open Go.RowKit

set_option maxRecDepth 100000 in
set_option maxHeartbeats 8000000 in
theorem SetApart_yes (v : JV) (p q : List JV) (x y : JV) (vx : Value) (P1 P2 : Option Addr) (n1 n2 m1 m2 : Nat) (x0 x1 x2 x3 x4 x5 y0 y1 y2 y3 y4 y5 : Value) (w : World) (hv : JVal w w.heap.size v vx)
    (hp : SlOf p.length 104 (JCells w w.heap.size p) (.slice P1 n1 m1)) (hq : SlOf q.length 104 (JCells w w.heap.size q) (.slice P2 n2 m2)) (hx : JRep w w.heap.size x [x0, x1, x2, x3, x4, x5]) (hy : JRep w w.heap.size y [y0, y1, y2, y3, y4, y5]) (hT : Tabs w) (hgo : goesB v p q x y) :
    Calls Tryz.prog 6 #[vx, .agg #[.slice P1 n1 m1, .slice P2 n2 m2], .agg #[x0, x1, x2, x3, x4, x5, y0, y1, y2, y3, y4, y5]] w fun e w' => e = .returned (.bool true) ∧ Below w.heap.size w w' := by
  obtain ⟨kx, hhx, tx, X1, i1, j1, X2, i2, j2, X3, i3, j3, rfl, rfl, rfl, rfl, rfl, rfl⟩ := hx.shape
  obtain ⟨ky, hhy, ty, Y1, i4, j4, Y2, i5, j5, Y3, i6, j6, rfl, rfl, rfl, rfl, rfl, rfl⟩ := hy.shape
  have HZ := Lib.hid (fun W h => zzFits1_walk v vx W h)
  obtain ⟨v0, v1, v2, v3, v4, v5, rfl, hvr⟩ := hv
  obtain ⟨kv, hhv, tv, V1, i7, j7, V2, i8, j8, V3, i9, j9, rfl, rfl, rfl, rfl, rfl, rfl⟩ := hvr.shape
  obtain ⟨hA, hB, hC⟩ := three_new w (.cells #[.int .i64 kv, .int .i64 hhv, .string tv, .slice V1 i7 j7, .slice V2 i8 j8, .slice V3 i9 j9] 26) (.cells #[.slice P1 n1 m1, .slice P2 n2 m2] 42) (.cells #[.int .i64 kx, .int .i64 hhx, .string tx, .slice X1 i1 j1, .slice X2 i2 j2, .slice X3 i3 j3, .int .i64 ky, .int .i64 hhy, .string ty, .slice Y1 i4 j4, .slice Y2 i5 j5, .slice Y3 i6 j6] 43)
  have hw := (((Below.refl w.heap.size w).alloc (Nat.le_refl _) (.cells #[.int .i64 kv, .int .i64 hhv, .string tv, .slice V1 i7 j7, .slice V2 i8 j8, .slice V3 i9 j9] 26)).alloc (by simp) (.cells #[.slice P1 n1 m1, .slice P2 n2 m2] 42)).alloc (by simp; omega) (.cells #[.int .i64 kx, .int .i64 hhx, .string tx, .slice X1 i1 j1, .slice X2 i2 j2, .slice X3 i3 j3, .int .i64 ky, .int .i64 hhy, .string ty, .slice Y1 i4 j4, .slice Y2 i5 j5, .slice Y3 i6 j6] 43)
  have hsz : w.heap.size + 2 < (((w.alloc (.cells #[.int .i64 kv, .int .i64 hhv, .string tv, .slice V1 i7 j7, .slice V2 i8 j8, .slice V3 i9 j9] 26)).alloc (.cells #[.slice P1 n1 m1, .slice P2 n2 m2] 42)).alloc (.cells #[.int .i64 kx, .int .i64 hhx, .string tx, .slice X1 i1 j1, .slice X2 i2 j2, .slice X3 i3 j3, .int .i64 ky, .int .i64 hhy, .string ty, .slice Y1 i4 j4, .slice Y2 i5 j5, .slice Y3 i6 j6] 43)).heap.size := by simp
  go_enter Tryz.func6, Tryz.ntmps6
  go_upto_region 1 with (fail)
  generalize (((w.alloc (.cells #[.int .i64 kv, .int .i64 hhv, .string tv, .slice V1 i7 j7, .slice V2 i8 j8, .slice V3 i9 j9] 26)).alloc (.cells #[.slice P1 n1 m1, .slice P2 n2 m2] 42)).alloc (.cells #[.int .i64 kx, .int .i64 hhx, .string tx, .slice X1 i1 j1, .slice X2 i2 j2, .slice X3 i3 j3, .int .i64 ky, .int .i64 hhy, .string ty, .slice Y1 i4 j4, .slice Y2 i5 j5, .slice Y3 i6 j6] 43)) = w0 at *
  obtain ⟨p0, p1, p2, p3, p4, p5⟩ := box6 hA
  go_wp2_with fail
  refine (HZ.out w0 ⟨_, _, _, _, _, _, rfl, hvr.below hw (by omega)⟩).mono ?_
  rintro e w1 ⟨z1, rfl, hb⟩
  replace hA := kept_below hb (by omega) hA
  replace hB := kept_below hb (by omega) hB
  replace hC := kept_below hb (by omega) hC
  replace hw := hw.trans (hb.mono (by omega))
  replace hsz : w.heap.size + 2 < w1.heap.size := by have := hb.size; omega
  clear hb p0 p1 p2 p3 p4 p5 HZ
  cases z1
  · go_wp2_with fail
    go_ret
    exact ⟨rfl, hw⟩
  obtain ⟨p0, p1⟩ := box2 hB
  go_wp2_with fail
  refine (zzFits3_walk _ _ w1).mono ?_
  rintro e w2 ⟨rfl, hb⟩
  replace hA := kept_below hb (by omega) hA
  replace hB := kept_below hb (by omega) hB
  replace hC := kept_below hb (by omega) hC
  replace hw := hw.trans (hb.mono (by omega))
  replace hsz : w.heap.size + 2 < w2.heap.size := by have := hb.size; omega
  clear hb p0 p1
  obtain ⟨p0, p1, p2, p3, p4, p5, p6, p7, p8, p9, p10, p11⟩ := box12 hC
  go_wp2_with fail
  refine (zzFits5_walk _ _ _ _ _ _ _ _ _ _ _ _ w2).mono ?_
  rintro e w3 ⟨rfl, hb⟩
  replace hA := kept_below hb (by omega) hA
  replace hB := kept_below hb (by omega) hB
  replace hC := kept_below hb (by omega) hC
  replace hw := hw.trans (hb.mono (by omega))
  replace hsz : w.heap.size + 2 < w3.heap.size := by have := hb.size; omega
  clear hb p0 p1 p2 p3 p4 p5 p6 p7 p8 p9 p10 p11
  go_upto_region 3 with (fail)
  have HS := Lib.hid (fun w' (h : Below w3.heap.size w3 w') => cells14 (N := w.heap.size) h hsz hB hC)
  have hszZ := Lib.hid hsz
  go_cut [7, 8, 9, 10] (fun s7 s8 s9 s10 wx => s7 = .slice P1 n1 m1 ∧ s8 = .slice P2 n2 m2 ∧ ∃ g1 g2 : Nat, s9 = .pointer (some ⟨g1, 0, none⟩) ∧ s10 = .pointer (some ⟨g2, 0, none⟩) ∧ wx.heap[g1]? = some (.cells #[.int .i64 kx, .int .i64 hhx, .string tx, .slice X1 i1 j1, .slice X2 i2 j2, .slice X3 i3 j3] 26) ∧ wx.heap[g2]? = some (.cells #[.int .i64 ky, .int .i64 hhy, .string ty, .slice Y1 i4 j4, .slice Y2 i5 j5, .slice Y3 i6 j6] 26) ∧ Below w3.heap.size w3 wx)
  case first =>
    clear hA hB hC hw hp hq hx hy hT hvr
    go_region_held3 (fun w' => Below w3.heap.size w3 w' ∧ w'.cell? ⟨w.heap.size + 1, 0, none⟩ = some (.slice P1 n1 m1) ∧ w'.cell? ⟨w.heap.size + 1, 1, none⟩ = some (.slice P2 n2 m2) ∧ w'.cell? ⟨w.heap.size + 1 + 1, 0, none⟩ = some (.int .i64 kx) ∧ w'.cell? ⟨w.heap.size + 1 + 1, 1, none⟩ = some (.int .i64 hhx) ∧ w'.cell? ⟨w.heap.size + 1 + 1, 2, none⟩ = some (.string tx) ∧ w'.cell? ⟨w.heap.size + 1 + 1, 3, none⟩ = some (.slice X1 i1 j1) ∧ w'.cell? ⟨w.heap.size + 1 + 1, 4, none⟩ = some (.slice X2 i2 j2) ∧ w'.cell? ⟨w.heap.size + 1 + 1, 5, none⟩ = some (.slice X3 i3 j3) ∧ w'.cell? ⟨w.heap.size + 1 + 1, 6, none⟩ = some (.int .i64 ky) ∧ w'.cell? ⟨w.heap.size + 1 + 1, 7, none⟩ = some (.int .i64 hhy) ∧ w'.cell? ⟨w.heap.size + 1 + 1, 8, none⟩ = some (.string ty) ∧ w'.cell? ⟨w.heap.size + 1 + 1, 9, none⟩ = some (.slice Y1 i4 j4) ∧ w'.cell? ⟨w.heap.size + 1 + 1, 10, none⟩ = some (.slice Y2 i5 j5) ∧ w'.cell? ⟨w.heap.size + 1 + 1, 11, none⟩ = some (.slice Y3 i6 j6))
      ((refine HS.out _ ?_; repeat (first | exact Below.refl _ _ | exact (Below.refl _ _).drew | (refine Below.setCell ?_ (by simp) _) | (refine Below.alloc ?_ (by simp) _) | (refine Below.drew ?_))))
      (fail)
    all_goals
      go_wp2_with fail
      go_meet
      first
        | exact ⟨rfl, rfl, _, _, rfl, rfl, (two_new w3 _ _).1, (two_new w3 _ _).2, (((Below.refl _ _).alloc (Nat.le_refl _) _).alloc (by simp) _).drew⟩
        | exact ⟨rfl, rfl, _, _, rfl, rfl, (two_new w3 _ _).2, (two_new w3 _ _).1, (((Below.refl _ _).alloc (Nat.le_refl _) _).alloc (by simp) _).drew⟩
  case rest =>
    obtain ⟨rfl, rfl, g1, g2, rfl, rfl, hX, hY, hb⟩ := hcut
    obtain ⟨w4, rfl⟩ : ∃ w4, w4 = wc := ⟨_, rfl⟩
    replace hA := kept_below hb (by omega) hA
    replace hw := hw.trans (hb.mono (by omega))
    replace hsz : w.heap.size + 2 < w4.heap.size := by have := hb.size; omega
    have hg1 := lt_of_at hX
    have hg2 := lt_of_at hY
    clear hb hB hC HS hszZ
    have HCL := Lib.hid (fun w' (h : Below w4.heap.size w4 w') => cells18 (N := w.heap.size) (g1 := g1) (g2 := g2) h (by omega) hg1 hg2 hA hX hY)
    have hP := slice_of hp
    have hQ := slice_of hq
    have HF := Lib.hid (fun W b (h : Below w4.heap.size w4 W) (hb : W.heap[b]? = some (.cells #[.int .i64 kv, .int .i64 hhv, .string tv, .slice V1 i7 j7, .slice V2 i8 j8, .slice V3 i9 j9, .int .i64 5, .int .i64 0, .string ⟨#[]⟩, .slice P1 n1 m1, .slice none 0 0, .slice none 0 0, .int .i64 5, .int .i64 0, .string ⟨#[]⟩, .slice P2 n2 m2, .slice none 0 0, .slice none 0 0, .int .i64 kx, .int .i64 hhx, .string tx, .slice X1 i1 j1, .slice X2 i2 j2, .slice X3 i3 j3, .int .i64 ky, .int .i64 hhy, .string ty, .slice Y1 i4 j4, .slice Y2 i5 j5, .slice Y3 i6 j6] 26)) => fits_walk [v, listT p, listT q, x, y] b 5 5 W rfl (by decide)
      (jcells_five hb (lt_of_at hb) (hvr.below (hw.trans (h.mono (by omega))) (by have := h.size; omega)) (list_rep (hP.below (hw.trans (h.mono (by omega))) (by have := h.size; omega))) (list_rep (hQ.below (hw.trans (h.mono (by omega))) (by have := h.size; omega))) (hx.below (hw.trans (h.mono (by omega))) (by have := h.size; omega)) (hy.below (hw.trans (h.mono (by omega))) (by have := h.size; omega)))
      (hT.at' (hw.trans (h.mono (by omega))) (Nat.le_refl _)))
    have HS1 := Lib.hid (fun W (h : Below w4.heap.size w4 W) => straight_walk p P1 n1 m1 W hP.parts.1 hP.parts.2.1 (hP.below (hw.trans (h.mono (by omega))) (by have := h.size; omega)).parts.2.2)
    have HS2 := Lib.hid (fun W (h : Below w4.heap.size w4 W) => straight_walk q P2 n2 m2 W hQ.parts.1 hQ.parts.2.1 (hQ.below (hw.trans (h.mono (by omega))) (by have := h.size; omega)).parts.2.2)
    have HAP := Lib.hid (fun (a1 : straightB p = true) (a2 : straightB q = true) W (h : Below w4.heap.size w4 W) => apart_walk p q P1 P2 n1 n2 m1 m2 W hP.parts.1 hQ.parts.1 hP.parts.2.1 hQ.parts.2.1 (straight_all a1) (straight_all a2) (hP.below (hw.trans (h.mono (by omega))) (by have := h.size; omega)).parts.2.2 (hQ.below (hw.trans (h.mono (by omega))) (by have := h.size; omega)).parts.2.2)
    have hgo2 := goes_parts hgo
    obtain ⟨fv, fp, fq, fx, fy, hap⟩ := hgo2
    obtain ⟨c1, c2, c3, c4⟩ := hgo
    have CF := HF
    rw [c1] at CF
    have CS1 := HS1
    rw [c2] at CS1
    have CS2 := HS2
    rw [c3] at CS2
    have CA := Lib.hid (HAP.out c2 c3)
    rw [c4] at CA
    have HT := Lib.hid hT
    have HVR := Lib.hid hvr
    have HXR := Lib.hid hx
    have HYR := Lib.hid hy
    have HPR := Lib.hid hP
    have HQR := Lib.hid hQ
    have HWB := Lib.hid hw
    have HA4 := Lib.hid hA
    have HX4 := Lib.hid hX
    have HY4 := Lib.hid hY
    have FV := Lib.hid fv
    have FP := Lib.hid fp
    have FQ := Lib.hid fq
    have FX := Lib.hid fx
    have FY := Lib.hid fy
    have FAP := Lib.hid hap
    clear HF HS1 HS2 HAP c1 c2 c3 c4 hT hvr hx hy hp hq hP hQ hw hA hX hY fv fp fq fx fy hap
    go_upto_region 4 with (fail)
    go_cut [61] (fun s61 wx => s61 = .bool false ∧ Below w4.heap.size w4 wx)
    case first => as_aux_lemma =>
      refine wp_region_held_drew (S := fun w' => Below w4.heap.size w4 w' ∧ w'.cell? ⟨w.heap.size, 0, none⟩ = some (.int .i64 kv) ∧ w'.cell? ⟨w.heap.size, 1, none⟩ = some (.int .i64 hhv) ∧ w'.cell? ⟨w.heap.size, 2, none⟩ = some (.string tv) ∧ w'.cell? ⟨w.heap.size, 3, none⟩ = some (.slice V1 i7 j7) ∧ w'.cell? ⟨w.heap.size, 4, none⟩ = some (.slice V2 i8 j8) ∧ w'.cell? ⟨w.heap.size, 5, none⟩ = some (.slice V3 i9 j9) ∧ w'.cell? ⟨g1, 0, none⟩ = some (.int .i64 kx) ∧ w'.cell? ⟨g1, 1, none⟩ = some (.int .i64 hhx) ∧ w'.cell? ⟨g1, 2, none⟩ = some (.string tx) ∧ w'.cell? ⟨g1, 3, none⟩ = some (.slice X1 i1 j1) ∧ w'.cell? ⟨g1, 4, none⟩ = some (.slice X2 i2 j2) ∧ w'.cell? ⟨g1, 5, none⟩ = some (.slice X3 i3 j3) ∧ w'.cell? ⟨g2, 0, none⟩ = some (.int .i64 ky) ∧ w'.cell? ⟨g2, 1, none⟩ = some (.int .i64 hhy) ∧ w'.cell? ⟨g2, 2, none⟩ = some (.string ty) ∧ w'.cell? ⟨g2, 3, none⟩ = some (.slice Y1 i4 j4) ∧ w'.cell? ⟨g2, 4, none⟩ = some (.slice Y2 i5 j5) ∧ w'.cell? ⟨g2, 5, none⟩ = some (.slice Y3 i6 j6)) (by kernel_rfl) (HCL.out _ (Below.refl _ _).drew) (fun hS => ?_)
      refine takeH 0 36 (.agg #[.int .i64 kv, .int .i64 hhv, .string tv, .slice V1 i7 j7, .slice V2 i8 j8, .slice V3 i9 j9]) rfl rfl (by kernel_rfl) (by kernel_rfl) (by kernel_rfl) (fun _ _ _ h => h) (by kernel_rfl) hS (fun W hW => ?_) ?_
      · obtain ⟨_, t0, t1, t2, t3, t4, t5, t6, t7, t8, t9, t10, t11, t12, t13, t14, t15, t16, t17⟩ := hW
        clear hS
        go_simp
      try simp only [List.setIfInBounds_toArray, List.set_cons_zero, List.set_cons_succ]
      refine takeH 1 37 (.slice P1 n1 m1) rfl rfl (by kernel_rfl) (by kernel_rfl) (by kernel_rfl) (fun _ _ _ h => h) (by kernel_rfl) hS (fun W hW => ?_) ?_
      · clear hW
        clear hS
        go_simp
      try simp only [List.setIfInBounds_toArray, List.set_cons_zero, List.set_cons_succ]
      refine takeH 3 39 (.slice P2 n2 m2) rfl rfl (by kernel_rfl) (by kernel_rfl) (by kernel_rfl) (fun _ _ _ h => h) (by kernel_rfl) hS (fun W hW => ?_) ?_
      · clear hW
        clear hS
        go_simp
      try simp only [List.setIfInBounds_toArray, List.set_cons_zero, List.set_cons_succ]
      refine takeH 5 41 (.agg #[.int .i64 kx, .int .i64 hhx, .string tx, .slice X1 i1 j1, .slice X2 i2 j2, .slice X3 i3 j3]) rfl rfl (by kernel_rfl) (by kernel_rfl) (by kernel_rfl) (fun _ _ _ h => h) (by kernel_rfl) hS (fun W hW => ?_) ?_
      · obtain ⟨_, t0, t1, t2, t3, t4, t5, t6, t7, t8, t9, t10, t11, t12, t13, t14, t15, t16, t17⟩ := hW
        clear hS
        go_simp
      try simp only [List.setIfInBounds_toArray, List.set_cons_zero, List.set_cons_succ]
      refine takeH 6 42 (.agg #[.int .i64 ky, .int .i64 hhy, .string ty, .slice Y1 i4 j4, .slice Y2 i5 j5, .slice Y3 i6 j6]) rfl rfl (by kernel_rfl) (by kernel_rfl) (by kernel_rfl) (fun _ _ _ h => h) (by kernel_rfl) hS (fun W hW => ?_) ?_
      · obtain ⟨_, t0, t1, t2, t3, t4, t5, t6, t7, t8, t9, t10, t11, t12, t13, t14, t15, t16, t17⟩ := hW
        clear hS
        go_simp
      try simp only [List.setIfInBounds_toArray, List.set_cons_zero, List.set_cons_succ]
      refine wpAnyH_ready (rs := [2]) (by kernel_rfl) (by simp) ?_
      refine AllReadyH.cons rfl (fun K hK => ?_) AllReadyH.nil
      clear hS
      go_simp
      refine (array_walk _ _ _ _).mono ?_
      rintro e wn ⟨rfl, hbn⟩
      go_wp2_with fail
      have hq := after_call hbn (Below.refl _ _).drew (Nat.le_refl _)
      clear hbn
      refine hK.out _ _ (HCL.out _ hq) (fun hS => ?_)
      clear hK K
      try simp only [Act.put, List.setIfInBounds_toArray, List.set_cons_zero, List.set_cons_succ]
      refine wpAnyH_ready (rs := [4]) (by kernel_rfl) (by simp) ?_
      refine AllReadyH.cons rfl (fun K hK => ?_) AllReadyH.nil
      clear hS
      go_simp
      refine (array_walk _ _ _ _).mono ?_
      rintro e wn ⟨rfl, hbn⟩
      go_wp2_with fail
      have hq := after_call hbn hq (Nat.le_refl _)
      clear hbn
      refine hK.out _ _ (HCL.out _ hq) (fun hS => ?_)
      clear hK K
      try simp only [Act.put, List.setIfInBounds_toArray, List.set_cons_zero, List.set_cons_succ]
      refine wpAnyH_ready (rs := [7]) (by kernel_rfl) (by simp) ?_
      refine AllReadyH.cons rfl (fun K hK => ?_) AllReadyH.nil
      clear hS
      refine step_build_five (by rfl) _ _ _ _ _ (by rfl) (by rfl) (by rfl) (by rfl) (by rfl) (by rfl) ?_
      have hr := heap_alloc_new wn (.cells #[.int .i64 kv, .int .i64 hhv, .string tv, .slice V1 i7 j7, .slice V2 i8 j8, .slice V3 i9 j9, .int .i64 5, .int .i64 0, .string ⟨#[]⟩, .slice P1 n1 m1, .slice none 0 0, .slice none 0 0, .int .i64 5, .int .i64 0, .string ⟨#[]⟩, .slice P2 n2 m2, .slice none 0 0, .slice none 0 0, .int .i64 kx, .int .i64 hhx, .string tx, .slice X1 i1 j1, .slice X2 i2 j2, .slice X3 i3 j3, .int .i64 ky, .int .i64 hhy, .string ty, .slice Y1 i4 j4, .slice Y2 i5 j5, .slice Y3 i6 j6] 26)
      have hq2 := alloc_keep hq (Nat.le_refl _) (.cells #[.int .i64 kv, .int .i64 hhv, .string tv, .slice V1 i7 j7, .slice V2 i8 j8, .slice V3 i9 j9, .int .i64 5, .int .i64 0, .string ⟨#[]⟩, .slice P1 n1 m1, .slice none 0 0, .slice none 0 0, .int .i64 5, .int .i64 0, .string ⟨#[]⟩, .slice P2 n2 m2, .slice none 0 0, .slice none 0 0, .int .i64 kx, .int .i64 hhx, .string tx, .slice X1 i1 j1, .slice X2 i2 j2, .slice X3 i3 j3, .int .i64 ky, .int .i64 hhy, .string ty, .slice Y1 i4 j4, .slice Y2 i5 j5, .slice Y3 i6 j6] 26)
      refine hK.out _ _ (HCL.out _ hq2) (fun hS => ?_)
      clear hK K
      try simp only [Act.put, List.setIfInBounds_toArray]
      refine wpAnyH_ready (rs := [8]) (by kernel_rfl) (by simp) ?_
      refine AllReadyH.cons rfl (fun K hK => ?_) AllReadyH.nil
      clear hS
      go_simp
      refine (CF.out _ _ hq2 hr).mono ?_
      rintro e wn ⟨rfl, hbn⟩
      go_wp2_with fail
      have hq := after_call hbn hq2 (Nat.le_refl _)
      clear hbn
      refine hK.out _ _ (HCL.out _ hq) (fun hS => ?_)
      clear hK K
      try simp only [Act.put, List.setIfInBounds_toArray, List.set_cons_zero, List.set_cons_succ]
      refine takeH 9 45 (.bool false) rfl rfl (by kernel_rfl) (by kernel_rfl) (by kernel_rfl) (fun _ _ _ h => h) (by kernel_rfl) hS (fun W hW => ?_) ?_
      · clear hW
        clear hS
        go_simp
      try simp only [List.setIfInBounds_toArray, List.set_cons_zero, List.set_cons_succ]
      refine takeH 10 46 (.bool false) rfl rfl (by kernel_rfl) (by kernel_rfl) (by kernel_rfl) (fun _ _ _ h => h) (by kernel_rfl) hS (fun W hW => ?_) ?_
      · clear hW
        clear hS
        go_simp
      try simp only [List.setIfInBounds_toArray, List.set_cons_zero, List.set_cons_succ]
      refine takeH 11 47 (.slice P1 n1 m1) rfl rfl (by kernel_rfl) (by kernel_rfl) (by kernel_rfl) (fun _ _ _ h => h) (by kernel_rfl) hS (fun W hW => ?_) ?_
      · clear hW
        clear hS
        go_simp
      try simp only [List.setIfInBounds_toArray, List.set_cons_zero, List.set_cons_succ]
      refine wpAnyH_ready (rs := [12]) (by kernel_rfl) (by simp) ?_
      refine AllReadyH.cons rfl (fun K hK => ?_) AllReadyH.nil
      clear hS
      go_simp
      refine (CS1.out _ hq).mono ?_
      rintro e wn ⟨rfl, hbn⟩
      go_wp2_with fail
      have hq := after_call hbn hq (Nat.le_refl _)
      clear hbn
      refine hK.out _ _ (HCL.out _ hq) (fun hS => ?_)
      clear hK K
      try simp only [Act.put, List.setIfInBounds_toArray, List.set_cons_zero, List.set_cons_succ]
      refine takeH 13 49 (.bool false) rfl rfl (by kernel_rfl) (by kernel_rfl) (by kernel_rfl) (fun _ _ _ h => h) (by kernel_rfl) hS (fun W hW => ?_) ?_
      · clear hW
        clear hS
        go_simp
      try simp only [List.setIfInBounds_toArray, List.set_cons_zero, List.set_cons_succ]
      refine takeH 14 50 (.bool false) rfl rfl (by kernel_rfl) (by kernel_rfl) (by kernel_rfl) (fun _ _ _ h => h) (by kernel_rfl) hS (fun W hW => ?_) ?_
      · clear hW
        clear hS
        go_simp
      try simp only [List.setIfInBounds_toArray, List.set_cons_zero, List.set_cons_succ]
      refine takeH 15 51 (.bool false) rfl rfl (by kernel_rfl) (by kernel_rfl) (by kernel_rfl) (fun _ _ _ h => h) (by kernel_rfl) hS (fun W hW => ?_) ?_
      · clear hW
        clear hS
        go_simp
      try simp only [List.setIfInBounds_toArray, List.set_cons_zero, List.set_cons_succ]
      refine takeH 16 52 (.slice P2 n2 m2) rfl rfl (by kernel_rfl) (by kernel_rfl) (by kernel_rfl) (fun _ _ _ h => h) (by kernel_rfl) hS (fun W hW => ?_) ?_
      · clear hW
        clear hS
        go_simp
      try simp only [List.setIfInBounds_toArray, List.set_cons_zero, List.set_cons_succ]
      refine wpAnyH_ready (rs := [17]) (by kernel_rfl) (by simp) ?_
      refine AllReadyH.cons rfl (fun K hK => ?_) AllReadyH.nil
      clear hS
      go_simp
      refine (CS2.out _ hq).mono ?_
      rintro e wn ⟨rfl, hbn⟩
      go_wp2_with fail
      have hq := after_call hbn hq (Nat.le_refl _)
      clear hbn
      refine hK.out _ _ (HCL.out _ hq) (fun hS => ?_)
      clear hK K
      try simp only [Act.put, List.setIfInBounds_toArray, List.set_cons_zero, List.set_cons_succ]
      refine takeH 18 54 (.bool false) rfl rfl (by kernel_rfl) (by kernel_rfl) (by kernel_rfl) (fun _ _ _ h => h) (by kernel_rfl) hS (fun W hW => ?_) ?_
      · clear hW
        clear hS
        go_simp
      try simp only [List.setIfInBounds_toArray, List.set_cons_zero, List.set_cons_succ]
      refine takeH 19 55 (.bool false) rfl rfl (by kernel_rfl) (by kernel_rfl) (by kernel_rfl) (fun _ _ _ h => h) (by kernel_rfl) hS (fun W hW => ?_) ?_
      · clear hW
        clear hS
        go_simp
      try simp only [List.setIfInBounds_toArray, List.set_cons_zero, List.set_cons_succ]
      refine takeH 20 56 (.bool false) rfl rfl (by kernel_rfl) (by kernel_rfl) (by kernel_rfl) (fun _ _ _ h => h) (by kernel_rfl) hS (fun W hW => ?_) ?_
      · clear hW
        clear hS
        go_simp
      try simp only [List.setIfInBounds_toArray, List.set_cons_zero, List.set_cons_succ]
      refine takeH 21 57 (.slice P1 n1 m1) rfl rfl (by kernel_rfl) (by kernel_rfl) (by kernel_rfl) (fun _ _ _ h => h) (by kernel_rfl) hS (fun W hW => ?_) ?_
      · clear hW
        clear hS
        go_simp
      try simp only [List.setIfInBounds_toArray, List.set_cons_zero, List.set_cons_succ]
      refine takeH 22 58 (.slice P2 n2 m2) rfl rfl (by kernel_rfl) (by kernel_rfl) (by kernel_rfl) (fun _ _ _ h => h) (by kernel_rfl) hS (fun W hW => ?_) ?_
      · clear hW
        clear hS
        go_simp
      try simp only [List.setIfInBounds_toArray, List.set_cons_zero, List.set_cons_succ]
      refine wpAnyH_ready (rs := [23]) (by kernel_rfl) (by simp) ?_
      refine AllReadyH.cons rfl (fun K hK => ?_) AllReadyH.nil
      clear hS
      go_simp
      refine (CA.out _ hq).mono ?_
      rintro e wn ⟨rfl, hbn⟩
      go_wp2_with fail
      have hq := after_call hbn hq (Nat.le_refl _)
      clear hbn
      refine hK.out _ _ (HCL.out _ hq) (fun hS => ?_)
      clear hK K
      try simp only [Act.put, List.setIfInBounds_toArray, List.set_cons_zero, List.set_cons_succ]
      refine takeH 24 60 (.bool false) rfl rfl (by kernel_rfl) (by kernel_rfl) (by kernel_rfl) (fun _ _ _ h => h) (by kernel_rfl) hS (fun W hW => ?_) ?_
      · clear hW
        clear hS
        go_simp
      try simp only [List.setIfInBounds_toArray, List.set_cons_zero, List.set_cons_succ]
      refine takeH 25 61 (.bool false) rfl rfl (by kernel_rfl) (by kernel_rfl) (by kernel_rfl) (fun _ _ _ h => h) (by kernel_rfl) hS (fun W hW => ?_) ?_
      · clear hW
        clear hS
        go_simp
      try simp only [List.setIfInBounds_toArray, List.set_cons_zero, List.set_cons_succ]
      refine wpAnyH_done (by kernel_rfl) ?_ _
      clear hS
      go_wp2_with fail
      go_meet
      exact ⟨rfl, hq⟩
    case rest =>
      obtain ⟨rfl, hcut⟩ := hcut
      obtain ⟨w5, rfl⟩ : ∃ w5, w5 = wc := ⟨_, rfl⟩
      have hA := kept_below hcut (by omega) HA4.out
      have hX := kept_below hcut (by omega) HX4.out
      have hY := kept_below hcut (by omega) HY4.out
      have h45 := hcut.size
      have HW5 := Lib.hid (HWB.out.trans (hcut.mono (by omega)))
      clear HCL CF CS1 CS2 CA
      have HCL := Lib.hid (fun w' (h : Below w5.heap.size w5 w') => cells18 (N := w.heap.size) (g1 := g1) (g2 := g2) h (by omega) (by omega) (by omega) hA hX hY)
      have HA5 := Lib.hid hA
      have HX5 := Lib.hid hX
      have HY5 := Lib.hid hY
      clear hA hX hY hcut HA4 HX4 HY4 HWB
      have hz5 : w.heap.size + 2 < w5.heap.size := by omega
      have c1 := fun W (h : Below w5.heap.size w5 W) => SetPath_walk 400 (by decide) (by decide) v x p (.agg #[.int .i64 kv, .int .i64 hhv, .string tv, .slice V1 i7 j7, .slice V2 i8 j8, .slice V3 i9 j9]) (.agg #[.int .i64 5, .int .i64 0, .string ⟨#[]⟩, .slice P1 n1 m1, .slice none 0 0, .slice none 0 0]) (.agg #[.int .i64 kx, .int .i64 hhx, .string tx, .slice X1 i1 j1, .slice X2 i2 j2, .slice X3 i3 j3]) W ⟨_, _, _, _, _, _, rfl, HVR.out.below (HW5.out.trans (h.mono (by omega))) (by have := h.size; omega)⟩ ⟨_, _, _, _, _, _, rfl, list_rep (HPR.out.below (HW5.out.trans (h.mono (by omega))) (by have := h.size; omega))⟩ ⟨_, _, _, _, _, _, rfl, HXR.out.below (HW5.out.trans (h.mono (by omega))) (by have := h.size; omega)⟩ FV.out.good FX.out.good FP.out.good FV.out.few FX.out.few FV.out.short FX.out.short FP.out.short FP.out.straight
      have c2 := fun W (h : Below w5.heap.size w5 W) => SetPath_walk 400 (by decide) (by decide) v y q (.agg #[.int .i64 kv, .int .i64 hhv, .string tv, .slice V1 i7 j7, .slice V2 i8 j8, .slice V3 i9 j9]) (.agg #[.int .i64 5, .int .i64 0, .string ⟨#[]⟩, .slice P2 n2 m2, .slice none 0 0, .slice none 0 0]) (.agg #[.int .i64 ky, .int .i64 hhy, .string ty, .slice Y1 i4 j4, .slice Y2 i5 j5, .slice Y3 i6 j6]) W ⟨_, _, _, _, _, _, rfl, HVR.out.below (HW5.out.trans (h.mono (by omega))) (by have := h.size; omega)⟩ ⟨_, _, _, _, _, _, rfl, list_rep (HQR.out.below (HW5.out.trans (h.mono (by omega))) (by have := h.size; omega))⟩ ⟨_, _, _, _, _, _, rfl, HYR.out.below (HW5.out.trans (h.mono (by omega))) (by have := h.size; omega)⟩ FV.out.good FY.out.good FQ.out.good FV.out.few FY.out.few FV.out.short FY.out.short FQ.out.short FQ.out.straight
      obtain ⟨o1, ho1⟩ : ∃ o1, setT (stepsOf p) x v = o1 := ⟨_, rfl⟩
      obtain ⟨o2, ho2⟩ : ∃ o2, setT (stepsOf q) y v = o2 := ⟨_, rfl⟩
      rw [ho1] at c1
      rw [ho2] at c2
      have HO1 := Lib.hid ho1
      have HO2 := Lib.hid ho2
      have C1 := Lib.hid c1
      have C2 := Lib.hid c2
      clear c1 c2 ho1 ho2
      go_upto_region 6 with (fail)
      go_cut [11, 12] (fun s11 s12 wx => ∃ ga gb : Nat, s11 = .pointer (some ⟨ga, 0, none⟩) ∧ s12 = .pointer (some ⟨gb, 0, none⟩) ∧ HeldAt o1 wx ga ∧ HeldAt o2 wx gb ∧ Below w5.heap.size w5 wx)
      case first => as_aux_lemma =>
        clear HT HVR HXR HYR HPR HQR HA5 HX5 HY5 FV FP FQ FX FY FAP HO1 HO2 HW5
        refine wp_region_held_drew (S := fun w' => Below w5.heap.size w5 w' ∧ w'.cell? ⟨w.heap.size, 0, none⟩ = some (.int .i64 kv) ∧ w'.cell? ⟨w.heap.size, 1, none⟩ = some (.int .i64 hhv) ∧ w'.cell? ⟨w.heap.size, 2, none⟩ = some (.string tv) ∧ w'.cell? ⟨w.heap.size, 3, none⟩ = some (.slice V1 i7 j7) ∧ w'.cell? ⟨w.heap.size, 4, none⟩ = some (.slice V2 i8 j8) ∧ w'.cell? ⟨w.heap.size, 5, none⟩ = some (.slice V3 i9 j9) ∧ w'.cell? ⟨g1, 0, none⟩ = some (.int .i64 kx) ∧ w'.cell? ⟨g1, 1, none⟩ = some (.int .i64 hhx) ∧ w'.cell? ⟨g1, 2, none⟩ = some (.string tx) ∧ w'.cell? ⟨g1, 3, none⟩ = some (.slice X1 i1 j1) ∧ w'.cell? ⟨g1, 4, none⟩ = some (.slice X2 i2 j2) ∧ w'.cell? ⟨g1, 5, none⟩ = some (.slice X3 i3 j3) ∧ w'.cell? ⟨g2, 0, none⟩ = some (.int .i64 ky) ∧ w'.cell? ⟨g2, 1, none⟩ = some (.int .i64 hhy) ∧ w'.cell? ⟨g2, 2, none⟩ = some (.string ty) ∧ w'.cell? ⟨g2, 3, none⟩ = some (.slice Y1 i4 j4) ∧ w'.cell? ⟨g2, 4, none⟩ = some (.slice Y2 i5 j5) ∧ w'.cell? ⟨g2, 5, none⟩ = some (.slice Y3 i6 j6)) (by kernel_rfl) (HCL.out _ (Below.refl _ _).drew) (fun hS => ?_)
        refine takeH 0 62 (.agg #[.int .i64 kv, .int .i64 hhv, .string tv, .slice V1 i7 j7, .slice V2 i8 j8, .slice V3 i9 j9]) rfl rfl (by kernel_rfl) (by kernel_rfl) (by kernel_rfl) (fun _ _ _ h => h) (by kernel_rfl) hS (fun W hW => ?_) ?_
        · obtain ⟨_, t0, t1, t2, t3, t4, t5, t6, t7, t8, t9, t10, t11, t12, t13, t14, t15, t16, t17⟩ := hW
          clear hS
          go_simp
        try simp only [List.setIfInBounds_toArray, List.set_cons_zero, List.set_cons_succ]
        refine takeH 1 63 (.slice P1 n1 m1) rfl rfl (by kernel_rfl) (by kernel_rfl) (by kernel_rfl) (fun _ _ _ h => h) (by kernel_rfl) hS (fun W hW => ?_) ?_
        · clear hW
          clear hS
          go_simp
        try simp only [List.setIfInBounds_toArray, List.set_cons_zero, List.set_cons_succ]
        refine takeH 3 65 (.agg #[.int .i64 kx, .int .i64 hhx, .string tx, .slice X1 i1 j1, .slice X2 i2 j2, .slice X3 i3 j3]) rfl rfl (by kernel_rfl) (by kernel_rfl) (by kernel_rfl) (fun _ _ _ h => h) (by kernel_rfl) hS (fun W hW => ?_) ?_
        · obtain ⟨_, t0, t1, t2, t3, t4, t5, t6, t7, t8, t9, t10, t11, t12, t13, t14, t15, t16, t17⟩ := hW
          clear hS
          go_simp
        try simp only [List.setIfInBounds_toArray, List.set_cons_zero, List.set_cons_succ]
        refine takeH 5 67 (.agg #[.int .i64 kv, .int .i64 hhv, .string tv, .slice V1 i7 j7, .slice V2 i8 j8, .slice V3 i9 j9]) rfl rfl (by kernel_rfl) (by kernel_rfl) (by kernel_rfl) (fun _ _ _ h => h) (by kernel_rfl) hS (fun W hW => ?_) ?_
        · obtain ⟨_, t0, t1, t2, t3, t4, t5, t6, t7, t8, t9, t10, t11, t12, t13, t14, t15, t16, t17⟩ := hW
          clear hS
          go_simp
        try simp only [List.setIfInBounds_toArray, List.set_cons_zero, List.set_cons_succ]
        refine takeH 6 68 (.slice P2 n2 m2) rfl rfl (by kernel_rfl) (by kernel_rfl) (by kernel_rfl) (fun _ _ _ h => h) (by kernel_rfl) hS (fun W hW => ?_) ?_
        · clear hW
          clear hS
          go_simp
        try simp only [List.setIfInBounds_toArray, List.set_cons_zero, List.set_cons_succ]
        refine takeH 8 70 (.agg #[.int .i64 ky, .int .i64 hhy, .string ty, .slice Y1 i4 j4, .slice Y2 i5 j5, .slice Y3 i6 j6]) rfl rfl (by kernel_rfl) (by kernel_rfl) (by kernel_rfl) (fun _ _ _ h => h) (by kernel_rfl) hS (fun W hW => ?_) ?_
        · obtain ⟨_, t0, t1, t2, t3, t4, t5, t6, t7, t8, t9, t10, t11, t12, t13, t14, t15, t16, t17⟩ := hW
          clear hS
          go_simp
        try simp only [List.setIfInBounds_toArray, List.set_cons_zero, List.set_cons_succ]
        clear hS
        refine wpAnyH_start Two.left 2 (fun s => #[true, true, s.b1, true, s.b2, true, true, s.b3, true, s.b4, s.c1, s.c2, false, false]) (fun a s => (((((a.put (some 11) s.p1).put (some 12) s.p2).put (some 64) s.a1).put (some 66) s.r1).put (some 69) s.a2).put (some 71) s.r2) (TwoInv w5 (.agg #[.int .i64 5, .int .i64 0, .string ⟨#[]⟩, .slice P1 n1 m1, .slice none 0 0, .slice none 0 0]) (.agg #[.int .i64 5, .int .i64 0, .string ⟨#[]⟩, .slice P2 n2 m2, .slice none 0 0, .slice none 0 0]) o1 o2) (fun a => ⟨false, false, false, false, false, false, a.tmps.getD 11 undef, a.tmps.getD 12 undef, a.tmps.getD 64 undef, a.tmps.getD 66 undef, a.tmps.getD 69 undef, a.tmps.getD 71 undef⟩) rfl (by kernel_rfl) (by kernel_rfl) ((TwoInv.start _ _ _ _ _ _ _ _).grow (Below.refl _ _).drew) (fun s W h => HCL.out _ h.below) ?hne ?hstep ?hdone
        case hne =>
          intro s W hJ hm
          obtain ⟨b1, b2, b3, b4, c1, c2, p1, p2, a1, r1, a2, r2⟩ := s
          have q1 := hJ.s1
          have q2 := hJ.s2
          have q3 := hJ.s3
          clear hJ
          simp only at q1 q2 q3
          cases c1
          · exact ⟨10, mem_ready.2 ⟨rfl, _, rfl, by intro e he; simp at he⟩⟩
          cases c2
          · exact ⟨11, mem_ready.2 ⟨rfl, _, rfl, by intro e he; simp at he⟩⟩
          cases b1
          · exact ⟨2, mem_ready.2 ⟨rfl, _, rfl, by intro e he _; simp at he; rcases he with rfl <;> rfl⟩⟩
          cases b2
          · exact ⟨4, mem_ready.2 ⟨rfl, _, rfl, by intro e he _; simp at he; rcases he with rfl | rfl | rfl | rfl <;> rfl⟩⟩
          cases b3
          · exact ⟨7, mem_ready.2 ⟨rfl, _, rfl, by intro e he _; simp at he; rcases he with rfl | rfl <;> rfl⟩⟩
          cases b4
          · exact ⟨9, mem_ready.2 ⟨rfl, _, rfl, by intro e he _; simp at he; rcases he with rfl | rfl | rfl | rfl <;> rfl⟩⟩
          exact absurd rfl hm
        case hstep =>
          intro s W i hJ hm hi
          obtain ⟨b1, b2, b3, b4, c1, c2, p1, p2, a1, r1, a2, r2⟩ := s
          have hun := ready_un hi
          have hlt := ready_lt hi
          have hcase : i = 2 ∨ i = 4 ∨ i = 7 ∨ i = 9 ∨ i = 10 ∨ i = 11 ∨ i = 12 ∨ i = 13 := by
            have hlt2 : i < 14 := hlt
            clear hlt hi hJ hm
            rcases i with _ | _ | _ | _ | _ | _ | _ | _ | _ | _ | _ | _ | _ | _ | i
            all_goals first
              | omega
              | (exact Bool.noConfusion (show true = false from hun))
          rcases hcase with rfl | rfl | rfl | rfl | rfl | rfl | rfl | rfl
          · obtain rfl : b1 = false := hun
            clear hlt hm hi
            refine wpOp_shut (o := _) rfl (fun K hK => ?_)
            try simp only [Act.put, List.setIfInBounds_toArray, List.set_cons_zero, List.set_cons_succ]
            go_simp
            refine (array_walk _ _ _ _).mono ?_
            rintro e wn ⟨rfl, hbn⟩
            go_wp2_with fail
            refine hK.out _ _ ⟨⟨true, b2, b3, b4, c1, c2, p1, p2, .agg #[.int .i64 5, .int .i64 0, .string ⟨#[]⟩, .slice P1 n1 m1, .slice none 0 0, .slice none 0 0], r1, a2, r2⟩, ?_, by kernel_rfl, by kernel_rfl, (hJ.grow hbn).arr1⟩
            simp [Two.left] <;> omega
          · obtain rfl : b2 = false := hun
            obtain rfl : b1 = true := ready_dep hi rfl (e := ⟨2, .data⟩) (by simp) rfl
            obtain rfl := hJ.g1 rfl
            clear hlt hm hi
            refine wpOp_shut (o := _) rfl (fun K hK => ?_)
            try simp only [Act.put, List.setIfInBounds_toArray, List.set_cons_zero, List.set_cons_succ]
            go_simp
            refine (C1.out W hJ.below).mono ?_
            rintro e wn ⟨hr, hbn⟩
            obtain ⟨u, rfl⟩ := hr.returned
            go_wp2_with fail
            refine hK.out _ _ ⟨⟨true, true, b3, b4, c1, c2, p1, p2, _, u, a2, r2⟩, ?_, by kernel_rfl, by kernel_rfl, hJ.res1 rfl hr hbn⟩
            simp [Two.left] <;> omega
          · obtain rfl : b3 = false := hun
            obtain rfl : b2 = true := ready_dep hi rfl (e := ⟨4, .chain⟩) (by simp) rfl
            clear hlt hm hi
            refine wpOp_shut (o := _) rfl (fun K hK => ?_)
            try simp only [Act.put, List.setIfInBounds_toArray, List.set_cons_zero, List.set_cons_succ]
            go_simp
            refine (array_walk _ _ _ _).mono ?_
            rintro e wn ⟨rfl, hbn⟩
            go_wp2_with fail
            refine hK.out _ _ ⟨⟨b1, true, true, b4, c1, c2, p1, p2, a1, r1, .agg #[.int .i64 5, .int .i64 0, .string ⟨#[]⟩, .slice P2 n2 m2, .slice none 0 0, .slice none 0 0], r2⟩, ?_, by kernel_rfl, by kernel_rfl, (hJ.grow hbn).arr2 rfl⟩
            simp [Two.left] <;> omega
          · obtain rfl : b4 = false := hun
            obtain rfl : b3 = true := ready_dep hi rfl (e := ⟨7, .data⟩) (by simp) rfl
            obtain rfl := hJ.g2 rfl
            clear hlt hm hi
            refine wpOp_shut (o := _) rfl (fun K hK => ?_)
            try simp only [Act.put, List.setIfInBounds_toArray, List.set_cons_zero, List.set_cons_succ]
            go_simp
            refine (C2.out W hJ.below).mono ?_
            rintro e wn ⟨hr, hbn⟩
            obtain ⟨u, rfl⟩ := hr.returned
            go_wp2_with fail
            refine hK.out _ _ ⟨⟨b1, b2, true, true, c1, c2, p1, p2, a1, r1, _, u⟩, ?_, by kernel_rfl, by kernel_rfl, hJ.res2 rfl hr hbn⟩
            simp [Two.left] <;> omega
          · obtain rfl : c1 = false := hun
            clear hlt hm hi
            refine wpOp_shut (o := _) rfl (fun K hK => ?_)
            try simp only [Act.put, List.setIfInBounds_toArray, List.set_cons_zero, List.set_cons_succ]
            go_simp
            refine hK.out _ _ ⟨⟨b1, b2, b3, b4, true, c2, .pointer (some ⟨W.heap.size, 0, none⟩), p2, a1, r1, a2, r2⟩, ?_, by kernel_rfl, by kernel_rfl, hJ.box1⟩
            simp [Two.left] <;> omega
          · obtain rfl : c2 = false := hun
            clear hlt hm hi
            refine wpOp_shut (o := _) rfl (fun K hK => ?_)
            try simp only [Act.put, List.setIfInBounds_toArray, List.set_cons_zero, List.set_cons_succ]
            go_simp
            refine hK.out _ _ ⟨⟨b1, b2, b3, b4, c1, true, p1, .pointer (some ⟨W.heap.size, 0, none⟩), a1, r1, a2, r2⟩, ?_, by kernel_rfl, by kernel_rfl, hJ.box2⟩
            simp [Two.left] <;> omega
          · exfalso
            obtain rfl : b2 = true := ready_dep hi rfl (e := ⟨4, .data⟩) (by simp) rfl
            obtain rfl : b4 = true := ready_dep hi rfl (e := ⟨9, .chain⟩) (by simp) rfl
            obtain rfl : c1 = true := ready_dep hi rfl (e := ⟨10, .data⟩) (by simp) rfl
            obtain rfl : c2 = true := ready_dep hi rfl (e := ⟨11, .phase⟩) (by simp) rfl
            obtain rfl : b1 = true := hJ.s1 rfl
            obtain rfl : b3 = true := hJ.s3 rfl
            exact hm rfl
          · have hd : false = true := ready_dep hi rfl (e := ⟨12, .chain⟩) (by simp) rfl
            cases hd
        case hdone =>
          intro s W hJ hm
          obtain ⟨e1, e2, e3, e4, e5, e6⟩ := TwoInv.full hm
          obtain ⟨ga, hp1, hB1, hz1⟩ := hJ.x1 e5
          obtain ⟨gb, hp2, hB2, hz2⟩ := hJ.x2 e6
          have hJ1 := hJ.r1 e2
          have hJ2 := hJ.r2 e4
          have hne := hJ.ne e5 e6
          have hJb := hJ.below
          clear hJ hm
          obtain ⟨b1, b2, b3, b4, c1, c2, p1, p2, a1, r1, a2, r2⟩ := s
          simp only at e1 e2 e3 e4 e5 e6 hp1 hp2 hJ1 hJ2 hne
          subst e1 e2 e3 e4 e5 e6 hp1 hp2
          obtain ⟨k1, h1, t1, A1, n1', m1', A2, n2', m2', A3, n3', m3', e1, rfl, hs1⟩ := hJ1.shape
          obtain ⟨k2, h2, t2, B1, q1, r1, B2, q2, r2, B3, q3, r3, e2, rfl, hs2⟩ := hJ2.shape
          have hgg : ga ≠ gb := fun e => hne (by rw [e])
          have HS1 := Lib.hid hs1
          have HS2 := Lib.hid hs2
          unfold zero7 at hz1 hz2
          clear hJ1 hJ2 hne hs1 hs2
          simp only [Act.put, List.setIfInBounds_toArray, List.set_cons_zero, List.set_cons_succ]
          have HZ2 := Lib.hid hz2
          have HZ1 := Lib.hid hz1
          have HJB := Lib.hid hJb
          have hltg := lt_of_at hz1
          clear hz1 hz2 hJb
          refine wpAnyH_ready (rs := [12]) (by kernel_rfl) (by simp) ?_
          refine AllReadyH.cons rfl (fun K hK => ?_) AllReadyH.nil
          refine step_store7 (by rfl) (by rfl) _ _ (by rfl) (by rfl) (by rfl) HZ1.out ?_
          have hW1 := seven_set (v0 := .int .i64 k1) (v1 := .int .i64 h1) (v2 := .string t1) (v3 := .slice A1 n1' m1') (v4 := .slice A2 n2' m2') (v5 := .slice A3 n3' m3') (v6 := .int .i64 e1) HZ1.out
          have hW1b := below_seven HJB.out hB1 (.int .i64 k1) (.int .i64 h1) (.string t1) (.slice A1 n1' m1') (.slice A2 n2' m2') (.slice A3 n3' m3') (.int .i64 e1)
          have hW1k := fun k hk => set7_block W ga (.int .i64 k1) (.int .i64 h1) (.string t1) (.slice A1 n1' m1') (.slice A2 n2' m2') (.slice A3 n3' m3') (.int .i64 e1) k hk
          have hW1s := set7_size W ga (.int .i64 k1) (.int .i64 h1) (.string t1) (.slice A1 n1' m1') (.slice A2 n2' m2') (.slice A3 n3' m3') (.int .i64 e1)
          generalize (((((((W.setCell ⟨ga, 0, none⟩ (.int .i64 k1)).setCell ⟨ga, 1, none⟩ (.int .i64 h1)).setCell ⟨ga, 2, none⟩ (.string t1)).setCell ⟨ga, 3, none⟩ (.slice A1 n1' m1')).setCell ⟨ga, 4, none⟩ (.slice A2 n2' m2')).setCell ⟨ga, 5, none⟩ (.slice A3 n3' m3')).setCell ⟨ga, 6, none⟩ (.int .i64 e1)) = W1 at *
          refine hK.out _ _ (HCL.out _ hW1b) (fun hS => ?_)
          clear hK K hS
          try simp only [List.setIfInBounds_toArray, List.set_cons_zero, List.set_cons_succ]
          have hz2 := (hW1k gb (fun e => hgg e.symm)).trans HZ2.out
          have HZ3 := Lib.hid hz2
          have HW1 := Lib.hid hW1
          have HW1B := Lib.hid hW1b
          have HW1K := Lib.hid hW1k
          have HW1S := Lib.hid hW1s
          clear hz2 hW1 hW1b hW1k hW1s
          refine wpAnyH_ready (rs := [13]) (by kernel_rfl) (by simp) ?_
          refine AllReadyH.cons rfl (fun K hK => ?_) AllReadyH.nil
          refine step_store7 (by rfl) (by rfl) _ _ (by rfl) (by rfl) (by rfl) HZ3.out ?_
          have hW2 := seven_set (v0 := .int .i64 k2) (v1 := .int .i64 h2) (v2 := .string t2) (v3 := .slice B1 q1 r1) (v4 := .slice B2 q2 r2) (v5 := .slice B3 q3 r3) (v6 := .int .i64 e2) HZ3.out
          have hW2b := below_seven HW1B.out hB2 (.int .i64 k2) (.int .i64 h2) (.string t2) (.slice B1 q1 r1) (.slice B2 q2 r2) (.slice B3 q3 r3) (.int .i64 e2)
          have hW2k := fun k hk => set7_block W1 gb (.int .i64 k2) (.int .i64 h2) (.string t2) (.slice B1 q1 r1) (.slice B2 q2 r2) (.slice B3 q3 r3) (.int .i64 e2) k hk
          have hW2s := set7_size W1 gb (.int .i64 k2) (.int .i64 h2) (.string t2) (.slice B1 q1 r1) (.slice B2 q2 r2) (.slice B3 q3 r3) (.int .i64 e2)
          generalize (((((((W1.setCell ⟨gb, 0, none⟩ (.int .i64 k2)).setCell ⟨gb, 1, none⟩ (.int .i64 h2)).setCell ⟨gb, 2, none⟩ (.string t2)).setCell ⟨gb, 3, none⟩ (.slice B1 q1 r1)).setCell ⟨gb, 4, none⟩ (.slice B2 q2 r2)).setCell ⟨gb, 5, none⟩ (.slice B3 q3 r3)).setCell ⟨gb, 6, none⟩ (.int .i64 e2)) = W2 at *
          refine hK.out _ _ (HCL.out _ hW2b) (fun hS => ?_)
          clear hK K hS
          have hall : ∀ b, b ≠ ga → b ≠ gb → W2.heap[b]? = W.heap[b]? := fun b q1 q2 => (hW2k b q2).trans (HW1K.out b q1)
          have hsz2 : W2.heap.size = W.heap.size := hW2s.trans HW1S.out
          have HH1 := Lib.hid (held_of HS1.out hall hsz2 ((hW2k ga hgg).trans HW1.out))
          have HH2 := Lib.hid (held_of HS2.out hall hsz2 hW2)
          have HB2 := Lib.hid hW2b
          clear hall hsz2 hW2 hW2b hW2k hW2s
          refine wpAnyH_done (by kernel_rfl) ?_ _
          go_wp2_with fail
          go_meet
          exact ⟨ga, gb, rfl, rfl, HH1.out, HH2.out, HB2.out⟩
        
      case rest =>
        obtain ⟨ga, gb, rfl, rfl, hHa, hHb, hbl⟩ := hcut
        obtain ⟨w6, rfl⟩ : ∃ w6, w6 = wc := ⟨_, rfl⟩
        obtain ⟨k1, h1, t1, A1, n1', m1', A2, n2', m2', A3, n3', m3', e1, hga, hs1⟩ := hHa
        obtain ⟨k2, h2, t2, B1, q1, r1, B2, q2, r2, B3, q3, r3, e2, hgb, hs2⟩ := hHb
        have hw6s := hbl.size
        have hX := kept_below hbl (by omega) HX5.out
        have hY := kept_below hbl (by omega) HY5.out
        have HW6 := Lib.hid (HW5.out.trans (hbl.mono (by omega)))
        clear HCL C1 C2 HA5 HX5 HY5 HW5 hbl
        obtain ⟨x0, x1, x2, x3, x4, x5, x6⟩ := box7 hga
        obtain ⟨y0, y1, y2, y3, y4, y5, y6⟩ := box7 hgb
        rcases hs1 with ⟨rfl, r, rfl, hrr⟩ | ⟨rfl, rfl⟩
        rotate_left
        · clear hs2 hga hgb hX hY
          go_wp2_with fail
          go_ret
          exact ⟨rfl, HW6.out⟩
        rcases hs2 with ⟨rfl, s, rfl, hss⟩ | ⟨rfl, rfl⟩
        rotate_left
        · clear hrr hga hgb hX hY
          go_wp2_with fail
          go_ret
          exact ⟨rfl, HW6.out⟩
        have fr := fine_set (by decide) FP.out FV.out FX.out HO1.out
        have fs := fine_set (by decide) FQ.out FV.out FY.out HO2.out
        have c3 := fun W (h : Below w6.heap.size w6 W) => SetPath_walk 401 (by decide) (by decide) r y q (.agg #[.int .i64 k1, .int .i64 h1, .string t1, .slice A1 n1' m1', .slice A2 n2' m2', .slice A3 n3' m3']) (.agg #[.int .i64 5, .int .i64 0, .string ⟨#[]⟩, .slice P2 n2 m2, .slice none 0 0, .slice none 0 0]) (.agg #[.int .i64 ky, .int .i64 hhy, .string ty, .slice Y1 i4 j4, .slice Y2 i5 j5, .slice Y3 i6 j6]) W ⟨_, _, _, _, _, _, rfl, hrr.below h h.size⟩ ⟨_, _, _, _, _, _, rfl, list_rep (HQR.out.below (HW6.out.trans (h.mono (by omega))) (by have := h.size; omega))⟩ ⟨_, _, _, _, _, _, rfl, HYR.out.below (HW6.out.trans (h.mono (by omega))) (by have := h.size; omega)⟩ fr.good FY.out.good FQ.out.good fr.few (FY.out.le (by decide)).few fr.short FY.out.short FQ.out.short FQ.out.straight
        have c4 := fun W (h : Below w6.heap.size w6 W) => SetPath_walk 401 (by decide) (by decide) s x p (.agg #[.int .i64 k2, .int .i64 h2, .string t2, .slice B1 q1 r1, .slice B2 q2 r2, .slice B3 q3 r3]) (.agg #[.int .i64 5, .int .i64 0, .string ⟨#[]⟩, .slice P1 n1 m1, .slice none 0 0, .slice none 0 0]) (.agg #[.int .i64 kx, .int .i64 hhx, .string tx, .slice X1 i1 j1, .slice X2 i2 j2, .slice X3 i3 j3]) W ⟨_, _, _, _, _, _, rfl, hss.below h h.size⟩ ⟨_, _, _, _, _, _, rfl, list_rep (HPR.out.below (HW6.out.trans (h.mono (by omega))) (by have := h.size; omega))⟩ ⟨_, _, _, _, _, _, rfl, HXR.out.below (HW6.out.trans (h.mono (by omega))) (by have := h.size; omega)⟩ fs.good FX.out.good FP.out.good fs.few (FX.out.le (by decide)).few fs.short FX.out.short FP.out.short FP.out.straight
        have hlaw := law_comm FV.out FAP.out HO1.out HO2.out
        obtain ⟨o3, ho3⟩ : ∃ o3, setT (stepsOf q) y r = o3 := ⟨_, rfl⟩
        obtain ⟨o4, ho4⟩ : ∃ o4, setT (stepsOf p) x s = o4 := ⟨_, rfl⟩
        rw [ho3] at c3
        rw [ho4] at c4
        rw [ho3, ho4] at hlaw
        have HLAW := Lib.hid hlaw
        have HO3 := Lib.hid ho3
        have HO4 := Lib.hid ho4
        have FR := Lib.hid fr
        have FS := Lib.hid fs
        have C3 := Lib.hid c3
        have C4 := Lib.hid c4
        have HGA := Lib.hid hga
        have HGB := Lib.hid hgb
        have HX6 := Lib.hid hX
        have HY6 := Lib.hid hY
        have hga7 := lt_of_at hga
        have hgb7 := lt_of_at hgb
        clear c3 c4 hlaw ho3 ho4 fr fs hrr hss
        have HCL := Lib.hid (fun w' (h : Below w6.heap.size w6 w') => cellsOf24 (ga := ga) (gb := gb) (g1 := g1) (g2 := g2) h (by omega) (by omega) (by omega) (by omega) hga hgb hX hY)
        clear hga hgb hX hY
        go_upto_region 9 with (fail)
        clear x0 x1 x2 x3 x4 x5 x6 y0 y1 y2 y3 y4 y5 y6
        go_cut [13, 14] (fun s13 s14 wx => ∃ ga gb : Nat, s13 = .pointer (some ⟨ga, 0, none⟩) ∧ s14 = .pointer (some ⟨gb, 0, none⟩) ∧ HeldAt o3 wx ga ∧ HeldAt o4 wx gb ∧ Below w6.heap.size w6 wx)
        case first => as_aux_lemma =>
          clear HT HVR HXR HYR HPR HQR HX6 HY6 HGA HGB FV FP FQ FX FY FAP HO1 HO2 HO3 HO4 HW6 HLAW FR FS
          refine wp_region_held_drew (S := fun w' => Below w6.heap.size w6 w' ∧ w'.cell? ⟨ga, 0, none⟩ = some (.int .i64 k1) ∧ w'.cell? ⟨ga, 1, none⟩ = some (.int .i64 h1) ∧ w'.cell? ⟨ga, 2, none⟩ = some (.string t1) ∧ w'.cell? ⟨ga, 3, none⟩ = some (.slice A1 n1' m1') ∧ w'.cell? ⟨ga, 4, none⟩ = some (.slice A2 n2' m2') ∧ w'.cell? ⟨ga, 5, none⟩ = some (.slice A3 n3' m3') ∧ w'.cell? ⟨gb, 0, none⟩ = some (.int .i64 k2) ∧ w'.cell? ⟨gb, 1, none⟩ = some (.int .i64 h2) ∧ w'.cell? ⟨gb, 2, none⟩ = some (.string t2) ∧ w'.cell? ⟨gb, 3, none⟩ = some (.slice B1 q1 r1) ∧ w'.cell? ⟨gb, 4, none⟩ = some (.slice B2 q2 r2) ∧ w'.cell? ⟨gb, 5, none⟩ = some (.slice B3 q3 r3) ∧ w'.cell? ⟨g1, 0, none⟩ = some (.int .i64 kx) ∧ w'.cell? ⟨g1, 1, none⟩ = some (.int .i64 hhx) ∧ w'.cell? ⟨g1, 2, none⟩ = some (.string tx) ∧ w'.cell? ⟨g1, 3, none⟩ = some (.slice X1 i1 j1) ∧ w'.cell? ⟨g1, 4, none⟩ = some (.slice X2 i2 j2) ∧ w'.cell? ⟨g1, 5, none⟩ = some (.slice X3 i3 j3) ∧ w'.cell? ⟨g2, 0, none⟩ = some (.int .i64 ky) ∧ w'.cell? ⟨g2, 1, none⟩ = some (.int .i64 hhy) ∧ w'.cell? ⟨g2, 2, none⟩ = some (.string ty) ∧ w'.cell? ⟨g2, 3, none⟩ = some (.slice Y1 i4 j4) ∧ w'.cell? ⟨g2, 4, none⟩ = some (.slice Y2 i5 j5) ∧ w'.cell? ⟨g2, 5, none⟩ = some (.slice Y3 i6 j6)) (by kernel_rfl) (HCL.out _ (Below.refl _ _).drew) (fun hS => ?_)
          refine takeH 0 80 (.pointer (some ⟨ga, 0, none⟩)) rfl rfl (by kernel_rfl) (by kernel_rfl) (by kernel_rfl) (fun _ _ _ h => h) (by kernel_rfl) hS (fun W hW => ?_) ?_
          · clear hW
            clear hS
            go_simp
          try simp only [List.setIfInBounds_toArray, List.set_cons_zero, List.set_cons_succ]
          refine takeH 1 81 (.agg #[.int .i64 k1, .int .i64 h1, .string t1, .slice A1 n1' m1', .slice A2 n2' m2', .slice A3 n3' m3']) rfl rfl (by kernel_rfl) (by kernel_rfl) (by kernel_rfl) (fun _ _ _ h => h) (by kernel_rfl) hS (fun W hW => ?_) ?_
          · obtain ⟨_, t0, t1, t2, t3, t4, t5, t6, t7, t8, t9, t10, t11, t12, t13, t14, t15, t16, t17, t18, t19, t20, t21, t22, t23⟩ := hW
            clear hS
            go_simp
          try simp only [List.setIfInBounds_toArray, List.set_cons_zero, List.set_cons_succ]
          refine takeH 2 82 (.slice P2 n2 m2) rfl rfl (by kernel_rfl) (by kernel_rfl) (by kernel_rfl) (fun _ _ _ h => h) (by kernel_rfl) hS (fun W hW => ?_) ?_
          · clear hW
            clear hS
            go_simp
          try simp only [List.setIfInBounds_toArray, List.set_cons_zero, List.set_cons_succ]
          refine takeH 4 84 (.agg #[.int .i64 ky, .int .i64 hhy, .string ty, .slice Y1 i4 j4, .slice Y2 i5 j5, .slice Y3 i6 j6]) rfl rfl (by kernel_rfl) (by kernel_rfl) (by kernel_rfl) (fun _ _ _ h => h) (by kernel_rfl) hS (fun W hW => ?_) ?_
          · obtain ⟨_, t0, t1, t2, t3, t4, t5, t6, t7, t8, t9, t10, t11, t12, t13, t14, t15, t16, t17, t18, t19, t20, t21, t22, t23⟩ := hW
            clear hS
            go_simp
          try simp only [List.setIfInBounds_toArray, List.set_cons_zero, List.set_cons_succ]
          refine takeH 6 86 (.pointer (some ⟨gb, 0, none⟩)) rfl rfl (by kernel_rfl) (by kernel_rfl) (by kernel_rfl) (fun _ _ _ h => h) (by kernel_rfl) hS (fun W hW => ?_) ?_
          · clear hW
            clear hS
            go_simp
          try simp only [List.setIfInBounds_toArray, List.set_cons_zero, List.set_cons_succ]
          refine takeH 7 87 (.agg #[.int .i64 k2, .int .i64 h2, .string t2, .slice B1 q1 r1, .slice B2 q2 r2, .slice B3 q3 r3]) rfl rfl (by kernel_rfl) (by kernel_rfl) (by kernel_rfl) (fun _ _ _ h => h) (by kernel_rfl) hS (fun W hW => ?_) ?_
          · obtain ⟨_, t0, t1, t2, t3, t4, t5, t6, t7, t8, t9, t10, t11, t12, t13, t14, t15, t16, t17, t18, t19, t20, t21, t22, t23⟩ := hW
            clear hS
            go_simp
          try simp only [List.setIfInBounds_toArray, List.set_cons_zero, List.set_cons_succ]
          refine takeH 8 88 (.slice P1 n1 m1) rfl rfl (by kernel_rfl) (by kernel_rfl) (by kernel_rfl) (fun _ _ _ h => h) (by kernel_rfl) hS (fun W hW => ?_) ?_
          · clear hW
            clear hS
            go_simp
          try simp only [List.setIfInBounds_toArray, List.set_cons_zero, List.set_cons_succ]
          refine takeH 10 90 (.agg #[.int .i64 kx, .int .i64 hhx, .string tx, .slice X1 i1 j1, .slice X2 i2 j2, .slice X3 i3 j3]) rfl rfl (by kernel_rfl) (by kernel_rfl) (by kernel_rfl) (fun _ _ _ h => h) (by kernel_rfl) hS (fun W hW => ?_) ?_
          · obtain ⟨_, t0, t1, t2, t3, t4, t5, t6, t7, t8, t9, t10, t11, t12, t13, t14, t15, t16, t17, t18, t19, t20, t21, t22, t23⟩ := hW
            clear hS
            go_simp
          try simp only [List.setIfInBounds_toArray, List.set_cons_zero, List.set_cons_succ]
          clear hS
          refine wpAnyH_start Two.left 2 (fun s => #[true, true, true, s.b1, true, s.b2, true, true, true, s.b3, true, s.b4, s.c1, s.c2, false, false]) (fun a s => (((((a.put (some 13) s.p1).put (some 14) s.p2).put (some 83) s.a1).put (some 85) s.r1).put (some 89) s.a2).put (some 91) s.r2) (TwoInv w6 (.agg #[.int .i64 5, .int .i64 0, .string ⟨#[]⟩, .slice P2 n2 m2, .slice none 0 0, .slice none 0 0]) (.agg #[.int .i64 5, .int .i64 0, .string ⟨#[]⟩, .slice P1 n1 m1, .slice none 0 0, .slice none 0 0]) o3 o4) (fun a => ⟨false, false, false, false, false, false, a.tmps.getD 13 undef, a.tmps.getD 14 undef, a.tmps.getD 83 undef, a.tmps.getD 85 undef, a.tmps.getD 89 undef, a.tmps.getD 91 undef⟩) rfl (by kernel_rfl) (by kernel_rfl) ((TwoInv.start _ _ _ _ _ _ _ _).grow (Below.refl _ _).drew) (fun s W h => HCL.out _ h.below) ?hne ?hstep ?hdone
          case hne =>
            intro s W hJ hm
            obtain ⟨b1, b2, b3, b4, c1, c2, p1, p2, a1, r1, a2, r2⟩ := s
            have q1 := hJ.s1
            have q2 := hJ.s2
            have q3 := hJ.s3
            clear hJ
            simp only at q1 q2 q3
            cases c1
            · exact ⟨12, mem_ready.2 ⟨rfl, _, rfl, by intro e he; simp at he⟩⟩
            cases c2
            · exact ⟨13, mem_ready.2 ⟨rfl, _, rfl, by intro e he; simp at he⟩⟩
            cases b1
            · exact ⟨3, mem_ready.2 ⟨rfl, _, rfl, by intro e he _; simp at he; rcases he with rfl <;> rfl⟩⟩
            cases b2
            · exact ⟨5, mem_ready.2 ⟨rfl, _, rfl, by intro e he _; simp at he; rcases he with rfl | rfl | rfl | rfl <;> rfl⟩⟩
            cases b3
            · exact ⟨9, mem_ready.2 ⟨rfl, _, rfl, by intro e he _; simp at he; rcases he with rfl | rfl <;> rfl⟩⟩
            cases b4
            · exact ⟨11, mem_ready.2 ⟨rfl, _, rfl, by intro e he _; simp at he; rcases he with rfl | rfl | rfl | rfl <;> rfl⟩⟩
            exact absurd rfl hm
          case hstep =>
            intro s W i hJ hm hi
            obtain ⟨b1, b2, b3, b4, c1, c2, p1, p2, a1, r1, a2, r2⟩ := s
            have hun := ready_un hi
            have hlt := ready_lt hi
            have hcase : i = 3 ∨ i = 5 ∨ i = 9 ∨ i = 11 ∨ i = 12 ∨ i = 13 ∨ i = 14 ∨ i = 15 := by
              have hlt2 : i < 16 := hlt
              clear hlt hi hJ hm
              rcases i with _ | _ | _ | _ | _ | _ | _ | _ | _ | _ | _ | _ | _ | _ | _ | _ | i
              all_goals first
                | omega
                | (exact Bool.noConfusion (show true = false from hun))
            rcases hcase with rfl | rfl | rfl | rfl | rfl | rfl | rfl | rfl
            · obtain rfl : b1 = false := hun
              clear hlt hm hi
              refine wpOp_shut (o := _) rfl (fun K hK => ?_)
              try simp only [Act.put, List.setIfInBounds_toArray, List.set_cons_zero, List.set_cons_succ]
              go_simp
              refine (array_walk _ _ _ _).mono ?_
              rintro e wn ⟨rfl, hbn⟩
              go_wp2_with fail
              refine hK.out _ _ ⟨⟨true, b2, b3, b4, c1, c2, p1, p2, .agg #[.int .i64 5, .int .i64 0, .string ⟨#[]⟩, .slice P2 n2 m2, .slice none 0 0, .slice none 0 0], r1, a2, r2⟩, ?_, by kernel_rfl, by kernel_rfl, (hJ.grow hbn).arr1⟩
              simp [Two.left] <;> omega
            · obtain rfl : b2 = false := hun
              obtain rfl : b1 = true := ready_dep hi rfl (e := ⟨3, .data⟩) (by simp) rfl
              obtain rfl := hJ.g1 rfl
              clear hlt hm hi
              refine wpOp_shut (o := _) rfl (fun K hK => ?_)
              try simp only [Act.put, List.setIfInBounds_toArray, List.set_cons_zero, List.set_cons_succ]
              go_simp
              refine (C3.out W hJ.below).mono ?_
              rintro e wn ⟨hr, hbn⟩
              obtain ⟨u, rfl⟩ := hr.returned
              go_wp2_with fail
              refine hK.out _ _ ⟨⟨true, true, b3, b4, c1, c2, p1, p2, _, u, a2, r2⟩, ?_, by kernel_rfl, by kernel_rfl, hJ.res1 rfl hr hbn⟩
              simp [Two.left] <;> omega
            · obtain rfl : b3 = false := hun
              obtain rfl : b2 = true := ready_dep hi rfl (e := ⟨5, .chain⟩) (by simp) rfl
              clear hlt hm hi
              refine wpOp_shut (o := _) rfl (fun K hK => ?_)
              try simp only [Act.put, List.setIfInBounds_toArray, List.set_cons_zero, List.set_cons_succ]
              go_simp
              refine (array_walk _ _ _ _).mono ?_
              rintro e wn ⟨rfl, hbn⟩
              go_wp2_with fail
              refine hK.out _ _ ⟨⟨b1, true, true, b4, c1, c2, p1, p2, a1, r1, .agg #[.int .i64 5, .int .i64 0, .string ⟨#[]⟩, .slice P1 n1 m1, .slice none 0 0, .slice none 0 0], r2⟩, ?_, by kernel_rfl, by kernel_rfl, (hJ.grow hbn).arr2 rfl⟩
              simp [Two.left] <;> omega
            · obtain rfl : b4 = false := hun
              obtain rfl : b3 = true := ready_dep hi rfl (e := ⟨9, .data⟩) (by simp) rfl
              obtain rfl := hJ.g2 rfl
              clear hlt hm hi
              refine wpOp_shut (o := _) rfl (fun K hK => ?_)
              try simp only [Act.put, List.setIfInBounds_toArray, List.set_cons_zero, List.set_cons_succ]
              go_simp
              refine (C4.out W hJ.below).mono ?_
              rintro e wn ⟨hr, hbn⟩
              obtain ⟨u, rfl⟩ := hr.returned
              go_wp2_with fail
              refine hK.out _ _ ⟨⟨b1, b2, true, true, c1, c2, p1, p2, a1, r1, _, u⟩, ?_, by kernel_rfl, by kernel_rfl, hJ.res2 rfl hr hbn⟩
              simp [Two.left] <;> omega
            · obtain rfl : c1 = false := hun
              clear hlt hm hi
              refine wpOp_shut (o := _) rfl (fun K hK => ?_)
              try simp only [Act.put, List.setIfInBounds_toArray, List.set_cons_zero, List.set_cons_succ]
              go_simp
              refine hK.out _ _ ⟨⟨b1, b2, b3, b4, true, c2, .pointer (some ⟨W.heap.size, 0, none⟩), p2, a1, r1, a2, r2⟩, ?_, by kernel_rfl, by kernel_rfl, hJ.box1⟩
              simp [Two.left] <;> omega
            · obtain rfl : c2 = false := hun
              clear hlt hm hi
              refine wpOp_shut (o := _) rfl (fun K hK => ?_)
              try simp only [Act.put, List.setIfInBounds_toArray, List.set_cons_zero, List.set_cons_succ]
              go_simp
              refine hK.out _ _ ⟨⟨b1, b2, b3, b4, c1, true, p1, .pointer (some ⟨W.heap.size, 0, none⟩), a1, r1, a2, r2⟩, ?_, by kernel_rfl, by kernel_rfl, hJ.box2⟩
              simp [Two.left] <;> omega
            · exfalso
              obtain rfl : b2 = true := ready_dep hi rfl (e := ⟨5, .data⟩) (by simp) rfl
              obtain rfl : b4 = true := ready_dep hi rfl (e := ⟨11, .chain⟩) (by simp) rfl
              obtain rfl : c1 = true := ready_dep hi rfl (e := ⟨12, .data⟩) (by simp) rfl
              obtain rfl : c2 = true := ready_dep hi rfl (e := ⟨13, .phase⟩) (by simp) rfl
              obtain rfl : b1 = true := hJ.s1 rfl
              obtain rfl : b3 = true := hJ.s3 rfl
              exact hm rfl
            · have hd : false = true := ready_dep hi rfl (e := ⟨14, .chain⟩) (by simp) rfl
              cases hd
          case hdone =>
            intro s W hJ hm
            obtain ⟨e1, e2, e3, e4, e5, e6⟩ := TwoInv.full hm
            obtain ⟨ga, hp1, hB1, hz1⟩ := hJ.x1 e5
            obtain ⟨gb, hp2, hB2, hz2⟩ := hJ.x2 e6
            have hJ1 := hJ.r1 e2
            have hJ2 := hJ.r2 e4
            have hne := hJ.ne e5 e6
            have hJb := hJ.below
            clear hJ hm
            obtain ⟨b1, b2, b3, b4, c1, c2, p1, p2, a1, r1, a2, r2⟩ := s
            simp only at e1 e2 e3 e4 e5 e6 hp1 hp2 hJ1 hJ2 hne
            subst e1 e2 e3 e4 e5 e6 hp1 hp2
            obtain ⟨k1, h1, t1, A1, n1', m1', A2, n2', m2', A3, n3', m3', e1, rfl, hs1⟩ := hJ1.shape
            obtain ⟨k2, h2, t2, B1, q1, r1, B2, q2, r2, B3, q3, r3, e2, rfl, hs2⟩ := hJ2.shape
            have hgg : ga ≠ gb := fun e => hne (by rw [e])
            have HS1 := Lib.hid hs1
            have HS2 := Lib.hid hs2
            unfold zero7 at hz1 hz2
            clear hJ1 hJ2 hne hs1 hs2
            simp only [Act.put, List.setIfInBounds_toArray, List.set_cons_zero, List.set_cons_succ]
            have HZ2 := Lib.hid hz2
            have HZ1 := Lib.hid hz1
            have HJB := Lib.hid hJb
            have hltg := lt_of_at hz1
            clear hz1 hz2 hJb
            refine wpAnyH_ready (rs := [14]) (by kernel_rfl) (by simp) ?_
            refine AllReadyH.cons rfl (fun K hK => ?_) AllReadyH.nil
            refine step_store7 (by rfl) (by rfl) _ _ (by rfl) (by rfl) (by rfl) HZ1.out ?_
            have hW1 := seven_set (v0 := .int .i64 k1) (v1 := .int .i64 h1) (v2 := .string t1) (v3 := .slice A1 n1' m1') (v4 := .slice A2 n2' m2') (v5 := .slice A3 n3' m3') (v6 := .int .i64 e1) HZ1.out
            have hW1b := below_seven HJB.out hB1 (.int .i64 k1) (.int .i64 h1) (.string t1) (.slice A1 n1' m1') (.slice A2 n2' m2') (.slice A3 n3' m3') (.int .i64 e1)
            have hW1k := fun k hk => set7_block W ga (.int .i64 k1) (.int .i64 h1) (.string t1) (.slice A1 n1' m1') (.slice A2 n2' m2') (.slice A3 n3' m3') (.int .i64 e1) k hk
            have hW1s := set7_size W ga (.int .i64 k1) (.int .i64 h1) (.string t1) (.slice A1 n1' m1') (.slice A2 n2' m2') (.slice A3 n3' m3') (.int .i64 e1)
            generalize (((((((W.setCell ⟨ga, 0, none⟩ (.int .i64 k1)).setCell ⟨ga, 1, none⟩ (.int .i64 h1)).setCell ⟨ga, 2, none⟩ (.string t1)).setCell ⟨ga, 3, none⟩ (.slice A1 n1' m1')).setCell ⟨ga, 4, none⟩ (.slice A2 n2' m2')).setCell ⟨ga, 5, none⟩ (.slice A3 n3' m3')).setCell ⟨ga, 6, none⟩ (.int .i64 e1)) = W1 at *
            refine hK.out _ _ (HCL.out _ hW1b) (fun hS => ?_)
            clear hK K hS
            try simp only [List.setIfInBounds_toArray, List.set_cons_zero, List.set_cons_succ]
            have hz2 := (hW1k gb (fun e => hgg e.symm)).trans HZ2.out
            have HZ3 := Lib.hid hz2
            have HW1 := Lib.hid hW1
            have HW1B := Lib.hid hW1b
            have HW1K := Lib.hid hW1k
            have HW1S := Lib.hid hW1s
            clear hz2 hW1 hW1b hW1k hW1s
            refine wpAnyH_ready (rs := [15]) (by kernel_rfl) (by simp) ?_
            refine AllReadyH.cons rfl (fun K hK => ?_) AllReadyH.nil
            refine step_store7 (by rfl) (by rfl) _ _ (by rfl) (by rfl) (by rfl) HZ3.out ?_
            have hW2 := seven_set (v0 := .int .i64 k2) (v1 := .int .i64 h2) (v2 := .string t2) (v3 := .slice B1 q1 r1) (v4 := .slice B2 q2 r2) (v5 := .slice B3 q3 r3) (v6 := .int .i64 e2) HZ3.out
            have hW2b := below_seven HW1B.out hB2 (.int .i64 k2) (.int .i64 h2) (.string t2) (.slice B1 q1 r1) (.slice B2 q2 r2) (.slice B3 q3 r3) (.int .i64 e2)
            have hW2k := fun k hk => set7_block W1 gb (.int .i64 k2) (.int .i64 h2) (.string t2) (.slice B1 q1 r1) (.slice B2 q2 r2) (.slice B3 q3 r3) (.int .i64 e2) k hk
            have hW2s := set7_size W1 gb (.int .i64 k2) (.int .i64 h2) (.string t2) (.slice B1 q1 r1) (.slice B2 q2 r2) (.slice B3 q3 r3) (.int .i64 e2)
            generalize (((((((W1.setCell ⟨gb, 0, none⟩ (.int .i64 k2)).setCell ⟨gb, 1, none⟩ (.int .i64 h2)).setCell ⟨gb, 2, none⟩ (.string t2)).setCell ⟨gb, 3, none⟩ (.slice B1 q1 r1)).setCell ⟨gb, 4, none⟩ (.slice B2 q2 r2)).setCell ⟨gb, 5, none⟩ (.slice B3 q3 r3)).setCell ⟨gb, 6, none⟩ (.int .i64 e2)) = W2 at *
            refine hK.out _ _ (HCL.out _ hW2b) (fun hS => ?_)
            clear hK K hS
            have hall : ∀ b, b ≠ ga → b ≠ gb → W2.heap[b]? = W.heap[b]? := fun b q1 q2 => (hW2k b q2).trans (HW1K.out b q1)
            have hsz2 : W2.heap.size = W.heap.size := hW2s.trans HW1S.out
            have HH1 := Lib.hid (held_of HS1.out hall hsz2 ((hW2k ga hgg).trans HW1.out))
            have HH2 := Lib.hid (held_of HS2.out hall hsz2 hW2)
            have HB2 := Lib.hid hW2b
            clear hall hsz2 hW2 hW2b hW2k hW2s
            refine wpAnyH_done (by kernel_rfl) ?_ _
            go_wp2_with fail
            go_meet
            exact ⟨ga, gb, rfl, rfl, HH1.out, HH2.out, HB2.out⟩
          
        case rest =>
          obtain ⟨gc, gd, rfl, rfl, hHa, hHb, hbl⟩ := hcut
          obtain ⟨w7, rfl⟩ : ∃ w7, w7 = wc := ⟨_, rfl⟩
          obtain ⟨k3, h3, t3, E1, i10, j10, E2, i11, j11, E3, i12, j12, e3, hgc, hs3⟩ := hHa
          obtain ⟨k4, h4, t4, D1, i13, j13, D2, i14, j14, D3, i15, j15, e4, hgd, hs4⟩ := hHb
          have hw7s := hbl.size
          have hX := kept_below hbl (by omega) HX6.out
          have hY := kept_below hbl (by omega) HY6.out
          have HW7 := Lib.hid (HW6.out.trans (hbl.mono (by omega)))
          clear HCL C3 C4 HX6 HY6 HW6 hbl HGA HGB
          obtain ⟨x0, x1, x2, x3, x4, x5, x6⟩ := box7 hgc
          obtain ⟨y0, y1, y2, y3, y4, y5, y6⟩ := box7 hgd
          have hl := HLAW.out
          rcases hs3 with ⟨rfl, a, rfl, haa⟩ | ⟨rfl, rfl⟩
          rotate_left
          · have h4 : e4 = 1 := by
              rcases hs4 with ⟨_, z, hz, _⟩ | ⟨h, _⟩
              · rw [← hl] at hz; cases hz
              · exact h
            subst h4
            clear hs4 hgc hgd hX hY hl
            go_wp2_with fail
            go_ret
            exact ⟨by first | rfl | simp, HW7.out⟩
          subst hl
          rcases hs4 with ⟨rfl, a', ha', hab⟩ | ⟨_, h⟩
          rotate_left
          · cases h
          obtain rfl : a = a' := by simpa using ha'
          have fa := fine_set (by decide) FQ.out FR.out (FY.out.le (by decide)) HO3.out
          have CG := Lib.hid (fun W (h : Below w7.heap.size w7 W) => given_same a fa.good _ _ _ _ _ _ _ _ _ _ _ _ W (hab.below h h.size) (haa.below h h.size))
          have CP1 := Lib.hid (fun W (h : Below w7.heap.size w7 W) => getpath_given a x p (.agg #[.int .i64 k3, .int .i64 h3, .string t3, .slice E1 i10 j10, .slice E2 i11 j11, .slice E3 i12 j12]) (.agg #[.int .i64 5, .int .i64 0, .string ⟨#[]⟩, .slice P1 n1 m1, .slice none 0 0, .slice none 0 0]) W ⟨_, _, _, _, _, _, rfl, haa.below h h.size⟩ ⟨_, _, _, _, _, _, rfl, list_rep (HPR.out.below (HW7.out.trans (h.mono (by omega))) (by have := h.size; omega))⟩ fa FX.out FP.out (law_first FV.out FAP.out HO1.out HO3.out))
          have CP2 := Lib.hid (fun W (h : Below w7.heap.size w7 W) => getpath_given a y q (.agg #[.int .i64 k4, .int .i64 h4, .string t4, .slice D1 i13 j13, .slice D2 i14 j14, .slice D3 i15 j15]) (.agg #[.int .i64 5, .int .i64 0, .string ⟨#[]⟩, .slice P2 n2 m2, .slice none 0 0, .slice none 0 0]) W ⟨_, _, _, _, _, _, rfl, hab.below h h.size⟩ ⟨_, _, _, _, _, _, rfl, list_rep (HQR.out.below (HW7.out.trans (h.mono (by omega))) (by have := h.size; omega))⟩ fa FY.out FQ.out (law_second FR.out HO3.out))
          have CGX := Lib.hid (fun W (h : Below w7.heap.size w7 W) u0 u1 u2 u3 u4 u5 (hu : JRep W W.heap.size x [u0, u1, u2, u3, u4, u5]) => given_same x FX.out.good u0 u1 u2 u3 u4 u5 _ _ _ _ _ _ W hu (HXR.out.below (HW7.out.trans (h.mono (by omega))) (by have := h.size; omega)))
          have CGY := Lib.hid (fun W (h : Below w7.heap.size w7 W) u0 u1 u2 u3 u4 u5 (hu : JRep W W.heap.size y [u0, u1, u2, u3, u4, u5]) => given_same y FY.out.good u0 u1 u2 u3 u4 u5 _ _ _ _ _ _ W hu (HYR.out.below (HW7.out.trans (h.mono (by omega))) (by have := h.size; omega)))
          have hgc7 := lt_of_at hgc
          have hgd7 := lt_of_at hgd
          have HCL := Lib.hid (fun w' (h : Below w7.heap.size w7 w') => cellsOf25 (ga := gc) (gb := gd) (g1 := g1) (g2 := g2) h (by omega) (by omega) (by omega) (by omega) hgc hgd hX hY)
          clear hgc hgd hX hY haa hab fa ha' HT HVR HXR HYR HPR HQR FV FP FQ FX FY FAP HO1 HO2 HO3 HO4 HLAW FR FS
          go_upto_region 12 with (fail)
          clear x0 x1 x2 x3 x4 x5 x6 y0 y1 y2 y3 y4 y5 y6
          refine wp_region_held_drew (S := fun w' => Below w7.heap.size w7 w' ∧ w'.cell? ⟨gc, 0, none⟩ = some (.int .i64 k3) ∧ w'.cell? ⟨gc, 1, none⟩ = some (.int .i64 h3) ∧ w'.cell? ⟨gc, 2, none⟩ = some (.string t3) ∧ w'.cell? ⟨gc, 3, none⟩ = some (.slice E1 i10 j10) ∧ w'.cell? ⟨gc, 4, none⟩ = some (.slice E2 i11 j11) ∧ w'.cell? ⟨gc, 5, none⟩ = some (.slice E3 i12 j12) ∧ w'.cell? ⟨gd, 0, none⟩ = some (.int .i64 k4) ∧ w'.cell? ⟨gd, 1, none⟩ = some (.int .i64 h4) ∧ w'.cell? ⟨gd, 2, none⟩ = some (.string t4) ∧ w'.cell? ⟨gd, 3, none⟩ = some (.slice D1 i13 j13) ∧ w'.cell? ⟨gd, 4, none⟩ = some (.slice D2 i14 j14) ∧ w'.cell? ⟨gd, 5, none⟩ = some (.slice D3 i15 j15) ∧ w'.cell? ⟨gd, 6, none⟩ = some (.int .i64 0) ∧ w'.cell? ⟨g1, 0, none⟩ = some (.int .i64 kx) ∧ w'.cell? ⟨g1, 1, none⟩ = some (.int .i64 hhx) ∧ w'.cell? ⟨g1, 2, none⟩ = some (.string tx) ∧ w'.cell? ⟨g1, 3, none⟩ = some (.slice X1 i1 j1) ∧ w'.cell? ⟨g1, 4, none⟩ = some (.slice X2 i2 j2) ∧ w'.cell? ⟨g1, 5, none⟩ = some (.slice X3 i3 j3) ∧ w'.cell? ⟨g2, 0, none⟩ = some (.int .i64 ky) ∧ w'.cell? ⟨g2, 1, none⟩ = some (.int .i64 hhy) ∧ w'.cell? ⟨g2, 2, none⟩ = some (.string ty) ∧ w'.cell? ⟨g2, 3, none⟩ = some (.slice Y1 i4 j4) ∧ w'.cell? ⟨g2, 4, none⟩ = some (.slice Y2 i5 j5) ∧ w'.cell? ⟨g2, 5, none⟩ = some (.slice Y3 i6 j6)) (by kernel_rfl) (HCL.out _ (Below.refl _ _).drew) (fun hS => ?_)
          refine takeH 0 100 (.agg #[.int .i64 k4, .int .i64 h4, .string t4, .slice D1 i13 j13, .slice D2 i14 j14, .slice D3 i15 j15, .int .i64 0]) rfl rfl (by kernel_rfl) (by kernel_rfl) (by kernel_rfl) (fun _ _ _ h => h) (by kernel_rfl) hS (fun W hW => ?_) ?_
          · obtain ⟨_, t0, t1, t2, t3, t4, t5, t6, t7, t8, t9, t10, t11, t12, t13, t14, t15, t16, t17, t18, t19, t20, t21, t22, t23, t24⟩ := hW
            clear hS
            go_simp
          try simp only [List.setIfInBounds_toArray, List.set_cons_zero, List.set_cons_succ]
          refine takeH 1 101 (.pointer (some ⟨gc, 0, none⟩)) rfl rfl (by kernel_rfl) (by kernel_rfl) (by kernel_rfl) (fun _ _ _ h => h) (by kernel_rfl) hS (fun W hW => ?_) ?_
          · clear hW
            clear hS
            go_simp
          try simp only [List.setIfInBounds_toArray, List.set_cons_zero, List.set_cons_succ]
          refine takeH 2 102 (.agg #[.int .i64 k3, .int .i64 h3, .string t3, .slice E1 i10 j10, .slice E2 i11 j11, .slice E3 i12 j12]) rfl rfl (by kernel_rfl) (by kernel_rfl) (by kernel_rfl) (fun _ _ _ h => h) (by kernel_rfl) hS (fun W hW => ?_) ?_
          · obtain ⟨_, t0, t1, t2, t3, t4, t5, t6, t7, t8, t9, t10, t11, t12, t13, t14, t15, t16, t17, t18, t19, t20, t21, t22, t23, t24⟩ := hW
            clear hS
            go_simp
          try simp only [List.setIfInBounds_toArray, List.set_cons_zero, List.set_cons_succ]
          refine wpAnyH_ready (rs := [3]) (by kernel_rfl) (by simp) ?_
          refine AllReadyH.cons rfl (fun K hK => ?_) AllReadyH.nil
          clear hS
          go_simp
          refine (CG.out _ (Below.refl _ _).drew).mono ?_
          rintro e wn ⟨rfl, hbn⟩
          go_wp2_with fail
          have hq := after_call hbn (Below.refl _ _).drew (Nat.le_refl _)
          clear hbn
          refine hK.out _ _ (HCL.out _ hq) (fun hS => ?_)
          clear hK K
          try simp only [Act.put, List.setIfInBounds_toArray, List.set_cons_zero, List.set_cons_succ]
          refine takeH 4 104 (.bool true) rfl rfl (by kernel_rfl) (by kernel_rfl) (by kernel_rfl) (fun _ _ _ h => h) (by kernel_rfl) hS (fun W hW => ?_) ?_
          · clear hW
            clear hS
            go_simp
          try simp only [List.setIfInBounds_toArray, List.set_cons_zero, List.set_cons_succ]
          refine takeH 5 105 (.pointer (some ⟨gc, 0, none⟩)) rfl rfl (by kernel_rfl) (by kernel_rfl) (by kernel_rfl) (fun _ _ _ h => h) (by kernel_rfl) hS (fun W hW => ?_) ?_
          · clear hW
            clear hS
            go_simp
          try simp only [List.setIfInBounds_toArray, List.set_cons_zero, List.set_cons_succ]
          refine takeH 6 106 (.agg #[.int .i64 k3, .int .i64 h3, .string t3, .slice E1 i10 j10, .slice E2 i11 j11, .slice E3 i12 j12]) rfl rfl (by kernel_rfl) (by kernel_rfl) (by kernel_rfl) (fun _ _ _ h => h) (by kernel_rfl) hS (fun W hW => ?_) ?_
          · obtain ⟨_, t0, t1, t2, t3, t4, t5, t6, t7, t8, t9, t10, t11, t12, t13, t14, t15, t16, t17, t18, t19, t20, t21, t22, t23, t24⟩ := hW
            clear hS
            go_simp
          try simp only [List.setIfInBounds_toArray, List.set_cons_zero, List.set_cons_succ]
          refine takeH 7 107 (.slice P1 n1 m1) rfl rfl (by kernel_rfl) (by kernel_rfl) (by kernel_rfl) (fun _ _ _ h => h) (by kernel_rfl) hS (fun W hW => ?_) ?_
          · clear hW
            clear hS
            go_simp
          try simp only [List.setIfInBounds_toArray, List.set_cons_zero, List.set_cons_succ]
          refine takeH 10 110 (.agg #[.int .i64 kx, .int .i64 hhx, .string tx, .slice X1 i1 j1, .slice X2 i2 j2, .slice X3 i3 j3]) rfl rfl (by kernel_rfl) (by kernel_rfl) (by kernel_rfl) (fun _ _ _ h => h) (by kernel_rfl) hS (fun W hW => ?_) ?_
          · obtain ⟨_, t0, t1, t2, t3, t4, t5, t6, t7, t8, t9, t10, t11, t12, t13, t14, t15, t16, t17, t18, t19, t20, t21, t22, t23, t24⟩ := hW
            clear hS
            go_simp
          try simp only [List.setIfInBounds_toArray, List.set_cons_zero, List.set_cons_succ]
          refine wpAnyH_ready (rs := [8]) (by kernel_rfl) (by simp) ?_
          refine AllReadyH.cons rfl (fun K hK => ?_) AllReadyH.nil
          clear hS
          go_simp
          refine (array_walk _ _ _ _).mono ?_
          rintro e wn ⟨rfl, hbn⟩
          go_wp2_with fail
          have hq := after_call hbn hq (Nat.le_refl _)
          clear hbn
          refine hK.out _ _ (HCL.out _ hq) (fun hS => ?_)
          clear hK K
          try simp only [Act.put, List.setIfInBounds_toArray, List.set_cons_zero, List.set_cons_succ]
          refine wpAnyH_ready (rs := [9]) (by kernel_rfl) (by simp) ?_
          refine AllReadyH.cons rfl (fun K hK => ?_) AllReadyH.nil
          clear hS
          go_simp
          refine (CP1.out _ hq).mono ?_
          rintro e wn ⟨u0, u1, u2, u3, u4, u5, rfl, hru, hbn⟩
          go_wp2_with fail
          have hq := after_call hbn hq (Nat.le_refl _)
          clear hbn
          refine hK.out _ _ (HCL.out _ hq) (fun hS => ?_)
          clear hK K
          try simp only [Act.put, List.setIfInBounds_toArray, List.set_cons_zero, List.set_cons_succ]
          refine wpAnyH_ready (rs := [11]) (by kernel_rfl) (by simp) ?_
          refine AllReadyH.cons rfl (fun K hK => ?_) AllReadyH.nil
          clear hS
          go_simp
          refine (CGX.out _ hq _ _ _ _ _ _ hru).mono ?_
          rintro e wn ⟨rfl, hbn⟩
          clear hru
          go_wp2_with fail
          have hq := after_call hbn hq (Nat.le_refl _)
          clear hbn
          refine hK.out _ _ (HCL.out _ hq) (fun hS => ?_)
          clear hK K
          try simp only [Act.put, List.setIfInBounds_toArray, List.set_cons_zero, List.set_cons_succ]
          refine takeH 12 112 (.bool true) rfl rfl (by kernel_rfl) (by kernel_rfl) (by kernel_rfl) (fun _ _ _ h => h) (by kernel_rfl) hS (fun W hW => ?_) ?_
          · clear hW
            clear hS
            go_simp
          try simp only [List.setIfInBounds_toArray, List.set_cons_zero, List.set_cons_succ]
          refine takeH 13 113 (.bool true) rfl rfl (by kernel_rfl) (by kernel_rfl) (by kernel_rfl) (fun _ _ _ h => h) (by kernel_rfl) hS (fun W hW => ?_) ?_
          · clear hW
            clear hS
            go_simp
          try simp only [List.setIfInBounds_toArray, List.set_cons_zero, List.set_cons_succ]
          refine takeH 14 114 (.pointer (some ⟨gd, 0, none⟩)) rfl rfl (by kernel_rfl) (by kernel_rfl) (by kernel_rfl) (fun _ _ _ h => h) (by kernel_rfl) hS (fun W hW => ?_) ?_
          · clear hW
            clear hS
            go_simp
          try simp only [List.setIfInBounds_toArray, List.set_cons_zero, List.set_cons_succ]
          refine takeH 15 115 (.agg #[.int .i64 k4, .int .i64 h4, .string t4, .slice D1 i13 j13, .slice D2 i14 j14, .slice D3 i15 j15]) rfl rfl (by kernel_rfl) (by kernel_rfl) (by kernel_rfl) (fun _ _ _ h => h) (by kernel_rfl) hS (fun W hW => ?_) ?_
          · obtain ⟨_, t0, t1, t2, t3, t4, t5, t6, t7, t8, t9, t10, t11, t12, t13, t14, t15, t16, t17, t18, t19, t20, t21, t22, t23, t24⟩ := hW
            clear hS
            go_simp
          try simp only [List.setIfInBounds_toArray, List.set_cons_zero, List.set_cons_succ]
          refine takeH 16 116 (.slice P2 n2 m2) rfl rfl (by kernel_rfl) (by kernel_rfl) (by kernel_rfl) (fun _ _ _ h => h) (by kernel_rfl) hS (fun W hW => ?_) ?_
          · clear hW
            clear hS
            go_simp
          try simp only [List.setIfInBounds_toArray, List.set_cons_zero, List.set_cons_succ]
          refine takeH 19 119 (.agg #[.int .i64 ky, .int .i64 hhy, .string ty, .slice Y1 i4 j4, .slice Y2 i5 j5, .slice Y3 i6 j6]) rfl rfl (by kernel_rfl) (by kernel_rfl) (by kernel_rfl) (fun _ _ _ h => h) (by kernel_rfl) hS (fun W hW => ?_) ?_
          · obtain ⟨_, t0, t1, t2, t3, t4, t5, t6, t7, t8, t9, t10, t11, t12, t13, t14, t15, t16, t17, t18, t19, t20, t21, t22, t23, t24⟩ := hW
            clear hS
            go_simp
          try simp only [List.setIfInBounds_toArray, List.set_cons_zero, List.set_cons_succ]
          refine wpAnyH_ready (rs := [17]) (by kernel_rfl) (by simp) ?_
          refine AllReadyH.cons rfl (fun K hK => ?_) AllReadyH.nil
          clear hS
          go_simp
          refine (array_walk _ _ _ _).mono ?_
          rintro e wn ⟨rfl, hbn⟩
          go_wp2_with fail
          have hq := after_call hbn hq (Nat.le_refl _)
          clear hbn
          refine hK.out _ _ (HCL.out _ hq) (fun hS => ?_)
          clear hK K
          try simp only [Act.put, List.setIfInBounds_toArray, List.set_cons_zero, List.set_cons_succ]
          refine wpAnyH_ready (rs := [18]) (by kernel_rfl) (by simp) ?_
          refine AllReadyH.cons rfl (fun K hK => ?_) AllReadyH.nil
          clear hS
          go_simp
          refine (CP2.out _ hq).mono ?_
          rintro e wn ⟨u0, u1, u2, u3, u4, u5, rfl, hru, hbn⟩
          go_wp2_with fail
          have hq := after_call hbn hq (Nat.le_refl _)
          clear hbn
          refine hK.out _ _ (HCL.out _ hq) (fun hS => ?_)
          clear hK K
          try simp only [Act.put, List.setIfInBounds_toArray, List.set_cons_zero, List.set_cons_succ]
          refine wpAnyH_ready (rs := [20]) (by kernel_rfl) (by simp) ?_
          refine AllReadyH.cons rfl (fun K hK => ?_) AllReadyH.nil
          clear hS
          go_simp
          refine (CGY.out _ hq _ _ _ _ _ _ hru).mono ?_
          rintro e wn ⟨rfl, hbn⟩
          clear hru
          go_wp2_with fail
          have hq := after_call hbn hq (Nat.le_refl _)
          clear hbn
          refine hK.out _ _ (HCL.out _ hq) (fun hS => ?_)
          clear hK K
          try simp only [Act.put, List.setIfInBounds_toArray, List.set_cons_zero, List.set_cons_succ]
          refine takeH 21 121 (.bool true) rfl rfl (by kernel_rfl) (by kernel_rfl) (by kernel_rfl) (fun _ _ _ h => h) (by kernel_rfl) hS (fun W hW => ?_) ?_
          · clear hW
            clear hS
            go_simp
          try simp only [List.setIfInBounds_toArray, List.set_cons_zero, List.set_cons_succ]
          refine takeH 22 6 (.bool true) rfl rfl (by kernel_rfl) (by kernel_rfl) (by kernel_rfl) (fun _ _ _ h => h) (by kernel_rfl) hS (fun W hW => ?_) ?_
          · clear hW
            clear hS
            go_simp
          try simp only [List.setIfInBounds_toArray, List.set_cons_zero, List.set_cons_succ]
          refine wpAnyH_done (by kernel_rfl) ?_ _
          clear hS
          go_wp2_with fail
          go_ret
          exact ⟨rfl, HW7.out.trans (hq.mono (by omega))⟩
end Go.Proofs.YtmjegeipnaalnaaGreatDoor
