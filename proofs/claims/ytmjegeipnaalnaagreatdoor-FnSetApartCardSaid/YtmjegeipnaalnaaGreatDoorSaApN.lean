/- FnSetApart: its walk where a guard lets nothing more be asked. -/
import Derived.Test.YtmjegeipnaalnaaGreatDoorSaZz35
namespace Go.Proofs.YtmjegeipnaalnaaGreatDoor
open Go.RowKit

set_option maxRecDepth 100000 in
set_option maxHeartbeats 8000000 in
theorem SetApart_no (v : JV) (p q : List JV) (x y : JV) (vx : Value) (P1 P2 : Option Addr) (n1 n2 m1 m2 : Nat) (x0 x1 x2 x3 x4 x5 y0 y1 y2 y3 y4 y5 : Value) (w : World) (hv : JVal w w.heap.size v vx)
    (hp : SlOf p.length 104 (JCells w w.heap.size p) (.slice P1 n1 m1)) (hq : SlOf q.length 104 (JCells w w.heap.size q) (.slice P2 n2 m2)) (hx : JRep w w.heap.size x [x0, x1, x2, x3, x4, x5]) (hy : JRep w w.heap.size y [y0, y1, y2, y3, y4, y5]) (hT : Tabs w) (hgo : ¬goesB v p q x y) :
    Calls Tryz.prog 6 #[vx, .agg #[.slice P1 n1 m1, .slice P2 n2 m2], .agg #[x0, x1, x2, x3, x4, x5, y0, y1, y2, y3, y4, y5]] w fun e w' => e = .returned (.bool true) ∧ Below w.heap.size w w' := by
  obtain ⟨kx, hhx, tx, X1, i1, j1, X2, i2, j2, X3, i3, j3, rfl, rfl, rfl, rfl, rfl, rfl⟩ := hx.shape
  obtain ⟨ky, hhy, ty, Y1, i4, j4, Y2, i5, j5, Y3, i6, j6, rfl, rfl, rfl, rfl, rfl, rfl⟩ := hy.shape
  have HZ := Lib.hid (fun W h => zzFits1_walk v vx W h)
  obtain ⟨v0, v1, v2, v3, v4, v5, rfl, hvr⟩ := hv
  obtain ⟨kv, hhv, tv, V1, i7, j7, V2, i8, j8, V3, i9, j9, rfl, rfl, rfl, rfl, rfl, rfl⟩ := hvr.shape
  obtain ⟨hA, hB, hC⟩ := three_new w (.cells #[.int .i64 kv, .int .i64 hhv, .string tv, .slice V1 i7 j7, .slice V2 i8 j8, .slice V3 i9 j9] 26) (.cells #[.slice P1 n1 m1, .slice P2 n2 m2] 42) (.cells #[.int .i64 kx, .int .i64 hhx, .string tx, .slice X1 i1 j1, .slice X2 i2 j2, .slice X3 i3 j3, .int .i64 ky, .int .i64 hhy, .string ty, .slice Y1 i4 j4, .slice Y2 i5 j5, .slice Y3 i6 j6] 43)
  have hw := (((Below.refl w.heap.size w).alloc (Nat.le_refl _) (.cells #[.int .i64 kv, .int .i64 hhv, .string tv, .slice V1 i7 j7, .slice V2 i8 j8, .slice V3 i9 j9] 26)).alloc (by simp) (.cells #[.slice P1 n1 m1, .slice P2 n2 m2] 42)).alloc (by simp; omega) (.cells #[.int .i64 kx, .int .i64 hhx, .string tx, .slice X1 i1 j1, .slice X2 i2 j2, .slice X3 i3 j3, .int .i64 ky, .int .i64 hhy, .string ty, .slice Y1 i4 j4, .slice Y2 i5 j5, .slice Y3 i6 j6] 43)
  have hsz : w.heap.size + 2 < (((w.alloc (.cells #[.int .i64 kv, .int .i64 hhv, .string tv, .slice V1 i7 j7, .slice V2 i8 j8, .slice V3 i9 j9] 26)).alloc (.cells #[.slice P1 n1 m1, .slice P2 n2 m2] 42)).alloc (.cells #[.int .i64 kx, .int .i64 hhx, .string tx, .slice X1 i1 j1, .slice X2 i2 j2, .slice X3 i3 j3, .int .i64 ky, .int .i64 hhy, .string ty, .slice Y1 i4 j4, .slice Y2 i5 j5, .slice Y3 i6 j6] 43)).heap.size := by simp
  go_enter Tryz.func6, Tryz.ntmps6
  go_upto_region 1 with (fail)
  generalize (((w.alloc (.cells #[.int .i64 kv, .int .i64 hhv, .string tv, .slice V1 i7 j7, .slice V2 i8 j8, .slice V3 i9 j9] 26)).alloc (.cells #[.slice P1 n1 m1, .slice P2 n2 m2] 42)).alloc (.cells #[.int .i64 kx, .int .i64 hhx, .string tx, .slice X1 i1 j1, .slice X2 i2 j2, .slice X3 i3 j3, .int .i64 ky, .int .i64 hhy, .string ty, .slice Y1 i4 j4, .slice Y2 i5 j5, .slice Y3 i6 j6] 43)) = w0 at *
  obtain ⟨p0, p1, p2, p3, p4, p5⟩ := box6 hA
  go_wp2_with fail
  refine (HZ.out w0 ⟨_, _, _, _, _, _, rfl, hvr.below hw (by omega)⟩).mono ?_
  rintro e w1 ⟨z1, rfl, hb⟩
  replace hA := kept_below hb (by omega) hA
  replace hB := kept_below hb (by omega) hB
  replace hC := kept_below hb (by omega) hC
  replace hw := hw.trans (hb.mono (by omega))
  replace hsz : w.heap.size + 2 < w1.heap.size := by have := hb.size; omega
  clear hb p0 p1 p2 p3 p4 p5 HZ
  cases z1
  · go_wp2_with fail
    go_ret
    exact ⟨rfl, hw⟩
  obtain ⟨p0, p1⟩ := box2 hB
  go_wp2_with fail
  refine (zzFits3_walk _ _ w1).mono ?_
  rintro e w2 ⟨rfl, hb⟩
  replace hA := kept_below hb (by omega) hA
  replace hB := kept_below hb (by omega) hB
  replace hC := kept_below hb (by omega) hC
  replace hw := hw.trans (hb.mono (by omega))
  replace hsz : w.heap.size + 2 < w2.heap.size := by have := hb.size; omega
  clear hb p0 p1
  obtain ⟨p0, p1, p2, p3, p4, p5, p6, p7, p8, p9, p10, p11⟩ := box12 hC
  go_wp2_with fail
  refine (zzFits5_walk _ _ _ _ _ _ _ _ _ _ _ _ w2).mono ?_
  rintro e w3 ⟨rfl, hb⟩
  replace hA := kept_below hb (by omega) hA
  replace hB := kept_below hb (by omega) hB
  replace hC := kept_below hb (by omega) hC
  replace hw := hw.trans (hb.mono (by omega))
  replace hsz : w.heap.size + 2 < w3.heap.size := by have := hb.size; omega
  clear hb p0 p1 p2 p3 p4 p5 p6 p7 p8 p9 p10 p11
  go_upto_region 3 with (fail)
  have HS := Lib.hid (fun w' (h : Below w3.heap.size w3 w') => cells14 (N := w.heap.size) h hsz hB hC)
  have hszZ := Lib.hid hsz
  go_cut [7, 8, 9, 10] (fun s7 s8 s9 s10 wx => s7 = .slice P1 n1 m1 ∧ s8 = .slice P2 n2 m2 ∧ ∃ g1 g2 : Nat, s9 = .pointer (some ⟨g1, 0, none⟩) ∧ s10 = .pointer (some ⟨g2, 0, none⟩) ∧ wx.heap[g1]? = some (.cells #[.int .i64 kx, .int .i64 hhx, .string tx, .slice X1 i1 j1, .slice X2 i2 j2, .slice X3 i3 j3] 26) ∧ wx.heap[g2]? = some (.cells #[.int .i64 ky, .int .i64 hhy, .string ty, .slice Y1 i4 j4, .slice Y2 i5 j5, .slice Y3 i6 j6] 26) ∧ Below w3.heap.size w3 wx)
  case first =>
    clear hA hB hC hw hp hq hx hy hT hvr
    go_region_held3 (fun w' => Below w3.heap.size w3 w' ∧ w'.cell? ⟨w.heap.size + 1, 0, none⟩ = some (.slice P1 n1 m1) ∧ w'.cell? ⟨w.heap.size + 1, 1, none⟩ = some (.slice P2 n2 m2) ∧ w'.cell? ⟨w.heap.size + 1 + 1, 0, none⟩ = some (.int .i64 kx) ∧ w'.cell? ⟨w.heap.size + 1 + 1, 1, none⟩ = some (.int .i64 hhx) ∧ w'.cell? ⟨w.heap.size + 1 + 1, 2, none⟩ = some (.string tx) ∧ w'.cell? ⟨w.heap.size + 1 + 1, 3, none⟩ = some (.slice X1 i1 j1) ∧ w'.cell? ⟨w.heap.size + 1 + 1, 4, none⟩ = some (.slice X2 i2 j2) ∧ w'.cell? ⟨w.heap.size + 1 + 1, 5, none⟩ = some (.slice X3 i3 j3) ∧ w'.cell? ⟨w.heap.size + 1 + 1, 6, none⟩ = some (.int .i64 ky) ∧ w'.cell? ⟨w.heap.size + 1 + 1, 7, none⟩ = some (.int .i64 hhy) ∧ w'.cell? ⟨w.heap.size + 1 + 1, 8, none⟩ = some (.string ty) ∧ w'.cell? ⟨w.heap.size + 1 + 1, 9, none⟩ = some (.slice Y1 i4 j4) ∧ w'.cell? ⟨w.heap.size + 1 + 1, 10, none⟩ = some (.slice Y2 i5 j5) ∧ w'.cell? ⟨w.heap.size + 1 + 1, 11, none⟩ = some (.slice Y3 i6 j6))
      ((refine HS.out _ ?_; repeat (first | exact Below.refl _ _ | exact (Below.refl _ _).drew | (refine Below.setCell ?_ (by simp) _) | (refine Below.alloc ?_ (by simp) _) | (refine Below.drew ?_))))
      (fail)
    all_goals
      go_wp2_with fail
      go_meet
      first
        | exact ⟨rfl, rfl, _, _, rfl, rfl, (two_new w3 _ _).1, (two_new w3 _ _).2, (((Below.refl _ _).alloc (Nat.le_refl _) _).alloc (by simp) _).drew⟩
        | exact ⟨rfl, rfl, _, _, rfl, rfl, (two_new w3 _ _).2, (two_new w3 _ _).1, (((Below.refl _ _).alloc (Nat.le_refl _) _).alloc (by simp) _).drew⟩
  case rest =>
    obtain ⟨rfl, rfl, g1, g2, rfl, rfl, hX, hY, hb⟩ := hcut
    obtain ⟨w4, rfl⟩ : ∃ w4, w4 = wc := ⟨_, rfl⟩
    replace hA := kept_below hb (by omega) hA
    replace hw := hw.trans (hb.mono (by omega))
    replace hsz : w.heap.size + 2 < w4.heap.size := by have := hb.size; omega
    have hg1 := lt_of_at hX
    have hg2 := lt_of_at hY
    clear hb hB hC HS hszZ
    have HCL := Lib.hid (fun w' (h : Below w4.heap.size w4 w') => cells18 (N := w.heap.size) (g1 := g1) (g2 := g2) h (by omega) hg1 hg2 hA hX hY)
    have hP := slice_of hp
    have hQ := slice_of hq
    have HF := Lib.hid (fun W b (h : Below w4.heap.size w4 W) (hb : W.heap[b]? = some (.cells #[.int .i64 kv, .int .i64 hhv, .string tv, .slice V1 i7 j7, .slice V2 i8 j8, .slice V3 i9 j9, .int .i64 5, .int .i64 0, .string ⟨#[]⟩, .slice P1 n1 m1, .slice none 0 0, .slice none 0 0, .int .i64 5, .int .i64 0, .string ⟨#[]⟩, .slice P2 n2 m2, .slice none 0 0, .slice none 0 0, .int .i64 kx, .int .i64 hhx, .string tx, .slice X1 i1 j1, .slice X2 i2 j2, .slice X3 i3 j3, .int .i64 ky, .int .i64 hhy, .string ty, .slice Y1 i4 j4, .slice Y2 i5 j5, .slice Y3 i6 j6] 26)) => fits_walk [v, listT p, listT q, x, y] b 5 5 W rfl (by decide)
      (jcells_five hb (lt_of_at hb) (hvr.below (hw.trans (h.mono (by omega))) (by have := h.size; omega)) (list_rep (hP.below (hw.trans (h.mono (by omega))) (by have := h.size; omega))) (list_rep (hQ.below (hw.trans (h.mono (by omega))) (by have := h.size; omega))) (hx.below (hw.trans (h.mono (by omega))) (by have := h.size; omega)) (hy.below (hw.trans (h.mono (by omega))) (by have := h.size; omega)))
      (hT.at' (hw.trans (h.mono (by omega))) (Nat.le_refl _)))
    have HS1 := Lib.hid (fun W (h : Below w4.heap.size w4 W) => straight_walk p P1 n1 m1 W hP.parts.1 hP.parts.2.1 (hP.below (hw.trans (h.mono (by omega))) (by have := h.size; omega)).parts.2.2)
    have HS2 := Lib.hid (fun W (h : Below w4.heap.size w4 W) => straight_walk q P2 n2 m2 W hQ.parts.1 hQ.parts.2.1 (hQ.below (hw.trans (h.mono (by omega))) (by have := h.size; omega)).parts.2.2)
    have HAP := Lib.hid (fun (a1 : straightB p = true) (a2 : straightB q = true) W (h : Below w4.heap.size w4 W) => apart_walk p q P1 P2 n1 n2 m1 m2 W hP.parts.1 hQ.parts.1 hP.parts.2.1 hQ.parts.2.1 (straight_all a1) (straight_all a2) (hP.below (hw.trans (h.mono (by omega))) (by have := h.size; omega)).parts.2.2 (hQ.below (hw.trans (h.mono (by omega))) (by have := h.size; omega)).parts.2.2)
    have hcs : [v, listT p, listT q, x, y].all fitB = false ∨ ([v, listT p, listT q, x, y].all fitB = true ∧ straightB p = false) ∨ ([v, listT p, listT q, x, y].all fitB = true ∧ straightB p = true ∧ straightB q = false) ∨
        ([v, listT p, listT q, x, y].all fitB = true ∧ straightB p = true ∧ straightB q = true ∧ apartT (stepsOf p) (stepsOf q) = false) ∨ ([v, listT p, listT q, x, y].all fitB = true ∧ straightB p = true ∧ straightB q = true ∧ apartT (stepsOf p) (stepsOf q) = true) := by
      cases [v, listT p, listT q, x, y].all fitB <;> cases straightB p <;> cases straightB q <;> cases apartT (stepsOf p) (stepsOf q) <;> simp
    have hB0 := Lib.hid hw
    clear hA hw hX hY hP hQ hT hp hq hx hy hvr
    rcases hcs with c1 | ⟨c1, c2⟩ | ⟨c1, c2, c3⟩ | ⟨c1, c2, c3, c4⟩ | c1
    · as_aux_lemma =>
        have CF := HF
        rw [c1] at CF
        clear HF HS1 HS2 HAP hgo c1
        go_upto_region 4 with (fail)
        refine wp_region_held_drew (S := fun w' => Below w4.heap.size w4 w' ∧ w'.cell? ⟨w.heap.size, 0, none⟩ = some (.int .i64 kv) ∧ w'.cell? ⟨w.heap.size, 1, none⟩ = some (.int .i64 hhv) ∧ w'.cell? ⟨w.heap.size, 2, none⟩ = some (.string tv) ∧ w'.cell? ⟨w.heap.size, 3, none⟩ = some (.slice V1 i7 j7) ∧ w'.cell? ⟨w.heap.size, 4, none⟩ = some (.slice V2 i8 j8) ∧ w'.cell? ⟨w.heap.size, 5, none⟩ = some (.slice V3 i9 j9) ∧ w'.cell? ⟨g1, 0, none⟩ = some (.int .i64 kx) ∧ w'.cell? ⟨g1, 1, none⟩ = some (.int .i64 hhx) ∧ w'.cell? ⟨g1, 2, none⟩ = some (.string tx) ∧ w'.cell? ⟨g1, 3, none⟩ = some (.slice X1 i1 j1) ∧ w'.cell? ⟨g1, 4, none⟩ = some (.slice X2 i2 j2) ∧ w'.cell? ⟨g1, 5, none⟩ = some (.slice X3 i3 j3) ∧ w'.cell? ⟨g2, 0, none⟩ = some (.int .i64 ky) ∧ w'.cell? ⟨g2, 1, none⟩ = some (.int .i64 hhy) ∧ w'.cell? ⟨g2, 2, none⟩ = some (.string ty) ∧ w'.cell? ⟨g2, 3, none⟩ = some (.slice Y1 i4 j4) ∧ w'.cell? ⟨g2, 4, none⟩ = some (.slice Y2 i5 j5) ∧ w'.cell? ⟨g2, 5, none⟩ = some (.slice Y3 i6 j6)) (by kernel_rfl) (HCL.out _ (Below.refl _ _).drew) (fun hS => ?_)
        refine takeH 0 36 (.agg #[.int .i64 kv, .int .i64 hhv, .string tv, .slice V1 i7 j7, .slice V2 i8 j8, .slice V3 i9 j9]) rfl rfl (by kernel_rfl) (by kernel_rfl) (by kernel_rfl) (fun _ _ _ h => h) (by kernel_rfl) hS (fun W hW => ?_) ?_
        · obtain ⟨_, t0, t1, t2, t3, t4, t5, t6, t7, t8, t9, t10, t11, t12, t13, t14, t15, t16, t17⟩ := hW
          clear hS
          go_simp
        try simp only [List.setIfInBounds_toArray, List.set_cons_zero, List.set_cons_succ]
        refine takeH 1 37 (.slice P1 n1 m1) rfl rfl (by kernel_rfl) (by kernel_rfl) (by kernel_rfl) (fun _ _ _ h => h) (by kernel_rfl) hS (fun W hW => ?_) ?_
        · clear hW
          clear hS
          go_simp
        try simp only [List.setIfInBounds_toArray, List.set_cons_zero, List.set_cons_succ]
        refine takeH 3 39 (.slice P2 n2 m2) rfl rfl (by kernel_rfl) (by kernel_rfl) (by kernel_rfl) (fun _ _ _ h => h) (by kernel_rfl) hS (fun W hW => ?_) ?_
        · clear hW
          clear hS
          go_simp
        try simp only [List.setIfInBounds_toArray, List.set_cons_zero, List.set_cons_succ]
        refine takeH 5 41 (.agg #[.int .i64 kx, .int .i64 hhx, .string tx, .slice X1 i1 j1, .slice X2 i2 j2, .slice X3 i3 j3]) rfl rfl (by kernel_rfl) (by kernel_rfl) (by kernel_rfl) (fun _ _ _ h => h) (by kernel_rfl) hS (fun W hW => ?_) ?_
        · obtain ⟨_, t0, t1, t2, t3, t4, t5, t6, t7, t8, t9, t10, t11, t12, t13, t14, t15, t16, t17⟩ := hW
          clear hS
          go_simp
        try simp only [List.setIfInBounds_toArray, List.set_cons_zero, List.set_cons_succ]
        refine takeH 6 42 (.agg #[.int .i64 ky, .int .i64 hhy, .string ty, .slice Y1 i4 j4, .slice Y2 i5 j5, .slice Y3 i6 j6]) rfl rfl (by kernel_rfl) (by kernel_rfl) (by kernel_rfl) (fun _ _ _ h => h) (by kernel_rfl) hS (fun W hW => ?_) ?_
        · obtain ⟨_, t0, t1, t2, t3, t4, t5, t6, t7, t8, t9, t10, t11, t12, t13, t14, t15, t16, t17⟩ := hW
          clear hS
          go_simp
        try simp only [List.setIfInBounds_toArray, List.set_cons_zero, List.set_cons_succ]
        refine wpAnyH_ready (rs := [2]) (by kernel_rfl) (by simp) ?_
        refine AllReadyH.cons rfl (fun K hK => ?_) AllReadyH.nil
        clear hS
        go_simp
        refine (array_walk _ _ _ _).mono ?_
        rintro e wn ⟨rfl, hbn⟩
        go_wp2_with fail
        have hq := after_call hbn (Below.refl _ _).drew (Nat.le_refl _)
        clear hbn
        refine hK.out _ _ (HCL.out _ hq) (fun hS => ?_)
        clear hK K
        try simp only [Act.put, List.setIfInBounds_toArray, List.set_cons_zero, List.set_cons_succ]
        refine wpAnyH_ready (rs := [4]) (by kernel_rfl) (by simp) ?_
        refine AllReadyH.cons rfl (fun K hK => ?_) AllReadyH.nil
        clear hS
        go_simp
        refine (array_walk _ _ _ _).mono ?_
        rintro e wn ⟨rfl, hbn⟩
        go_wp2_with fail
        have hq := after_call hbn hq (Nat.le_refl _)
        clear hbn
        refine hK.out _ _ (HCL.out _ hq) (fun hS => ?_)
        clear hK K
        try simp only [Act.put, List.setIfInBounds_toArray, List.set_cons_zero, List.set_cons_succ]
        refine wpAnyH_ready (rs := [7]) (by kernel_rfl) (by simp) ?_
        refine AllReadyH.cons rfl (fun K hK => ?_) AllReadyH.nil
        clear hS
        refine step_build_five (by rfl) _ _ _ _ _ (by rfl) (by rfl) (by rfl) (by rfl) (by rfl) (by rfl) ?_
        have hr := heap_alloc_new wn (.cells #[.int .i64 kv, .int .i64 hhv, .string tv, .slice V1 i7 j7, .slice V2 i8 j8, .slice V3 i9 j9, .int .i64 5, .int .i64 0, .string ⟨#[]⟩, .slice P1 n1 m1, .slice none 0 0, .slice none 0 0, .int .i64 5, .int .i64 0, .string ⟨#[]⟩, .slice P2 n2 m2, .slice none 0 0, .slice none 0 0, .int .i64 kx, .int .i64 hhx, .string tx, .slice X1 i1 j1, .slice X2 i2 j2, .slice X3 i3 j3, .int .i64 ky, .int .i64 hhy, .string ty, .slice Y1 i4 j4, .slice Y2 i5 j5, .slice Y3 i6 j6] 26)
        have hq2 := alloc_keep hq (Nat.le_refl _) (.cells #[.int .i64 kv, .int .i64 hhv, .string tv, .slice V1 i7 j7, .slice V2 i8 j8, .slice V3 i9 j9, .int .i64 5, .int .i64 0, .string ⟨#[]⟩, .slice P1 n1 m1, .slice none 0 0, .slice none 0 0, .int .i64 5, .int .i64 0, .string ⟨#[]⟩, .slice P2 n2 m2, .slice none 0 0, .slice none 0 0, .int .i64 kx, .int .i64 hhx, .string tx, .slice X1 i1 j1, .slice X2 i2 j2, .slice X3 i3 j3, .int .i64 ky, .int .i64 hhy, .string ty, .slice Y1 i4 j4, .slice Y2 i5 j5, .slice Y3 i6 j6] 26)
        refine hK.out _ _ (HCL.out _ hq2) (fun hS => ?_)
        clear hK K
        try simp only [Act.put, List.setIfInBounds_toArray]
        refine wpAnyH_ready (rs := [8]) (by kernel_rfl) (by simp) ?_
        refine AllReadyH.cons rfl (fun K hK => ?_) AllReadyH.nil
        clear hS
        go_simp
        refine (CF.out _ _ hq2 hr).mono ?_
        rintro e wn ⟨rfl, hbn⟩
        go_wp2_with fail
        have hq := after_call hbn hq2 (Nat.le_refl _)
        clear hbn
        refine hK.out _ _ (HCL.out _ hq) (fun hS => ?_)
        clear hK K
        try simp only [Act.put, List.setIfInBounds_toArray, List.set_cons_zero, List.set_cons_succ]
        refine takeH 9 45 (.bool true) rfl rfl (by kernel_rfl) (by kernel_rfl) (by kernel_rfl) (fun _ _ _ h => h) (by kernel_rfl) hS (fun W hW => ?_) ?_
        · clear hW
          clear hS
          go_simp
        try simp only [List.setIfInBounds_toArray, List.set_cons_zero, List.set_cons_succ]
        refine takeH 10 46 (.bool true) rfl rfl (by kernel_rfl) (by kernel_rfl) (by kernel_rfl) (fun _ _ _ h => h) (by kernel_rfl) hS (fun W hW => ?_) ?_
        · clear hW
          clear hS
          go_simp
        try simp only [List.setIfInBounds_toArray, List.set_cons_zero, List.set_cons_succ]
        refine skipH 11 47 rfl rfl (by kernel_rfl) (by kernel_rfl) (by kernel_rfl) (fun _ _ _ h => h) (by kernel_rfl) hS ?_
        try simp only [List.setIfInBounds_toArray, List.set_cons_zero, List.set_cons_succ]
        refine skipH 12 48 rfl rfl (by kernel_rfl) (by kernel_rfl) (by kernel_rfl) (fun _ _ _ h => h) (by kernel_rfl) hS ?_
        try simp only [List.setIfInBounds_toArray, List.set_cons_zero, List.set_cons_succ]
        refine skipH 13 49 rfl rfl (by kernel_rfl) (by kernel_rfl) (by kernel_rfl) (fun _ _ _ h => h) (by kernel_rfl) hS ?_
        try simp only [List.setIfInBounds_toArray, List.set_cons_zero, List.set_cons_succ]
        refine takeH 14 50 (.bool true) rfl rfl (by kernel_rfl) (by kernel_rfl) (by kernel_rfl) (fun _ _ _ h => h) (by kernel_rfl) hS (fun W hW => ?_) ?_
        · clear hW
          clear hS
          go_simp
        try simp only [List.setIfInBounds_toArray, List.set_cons_zero, List.set_cons_succ]
        refine takeH 15 51 (.bool true) rfl rfl (by kernel_rfl) (by kernel_rfl) (by kernel_rfl) (fun _ _ _ h => h) (by kernel_rfl) hS (fun W hW => ?_) ?_
        · clear hW
          clear hS
          go_simp
        try simp only [List.setIfInBounds_toArray, List.set_cons_zero, List.set_cons_succ]
        refine skipH 16 52 rfl rfl (by kernel_rfl) (by kernel_rfl) (by kernel_rfl) (fun _ _ _ h => h) (by kernel_rfl) hS ?_
        try simp only [List.setIfInBounds_toArray, List.set_cons_zero, List.set_cons_succ]
        refine skipH 17 53 rfl rfl (by kernel_rfl) (by kernel_rfl) (by kernel_rfl) (fun _ _ _ h => h) (by kernel_rfl) hS ?_
        try simp only [List.setIfInBounds_toArray, List.set_cons_zero, List.set_cons_succ]
        refine skipH 18 54 rfl rfl (by kernel_rfl) (by kernel_rfl) (by kernel_rfl) (fun _ _ _ h => h) (by kernel_rfl) hS ?_
        try simp only [List.setIfInBounds_toArray, List.set_cons_zero, List.set_cons_succ]
        refine takeH 19 55 (.bool true) rfl rfl (by kernel_rfl) (by kernel_rfl) (by kernel_rfl) (fun _ _ _ h => h) (by kernel_rfl) hS (fun W hW => ?_) ?_
        · clear hW
          clear hS
          go_simp
        try simp only [List.setIfInBounds_toArray, List.set_cons_zero, List.set_cons_succ]
        refine takeH 20 56 (.bool true) rfl rfl (by kernel_rfl) (by kernel_rfl) (by kernel_rfl) (fun _ _ _ h => h) (by kernel_rfl) hS (fun W hW => ?_) ?_
        · clear hW
          clear hS
          go_simp
        try simp only [List.setIfInBounds_toArray, List.set_cons_zero, List.set_cons_succ]
        refine skipH 21 57 rfl rfl (by kernel_rfl) (by kernel_rfl) (by kernel_rfl) (fun _ _ _ h => h) (by kernel_rfl) hS ?_
        try simp only [List.setIfInBounds_toArray, List.set_cons_zero, List.set_cons_succ]
        refine skipH 22 58 rfl rfl (by kernel_rfl) (by kernel_rfl) (by kernel_rfl) (fun _ _ _ h => h) (by kernel_rfl) hS ?_
        try simp only [List.setIfInBounds_toArray, List.set_cons_zero, List.set_cons_succ]
        refine skipH 23 59 rfl rfl (by kernel_rfl) (by kernel_rfl) (by kernel_rfl) (fun _ _ _ h => h) (by kernel_rfl) hS ?_
        try simp only [List.setIfInBounds_toArray, List.set_cons_zero, List.set_cons_succ]
        refine skipH 24 60 rfl rfl (by kernel_rfl) (by kernel_rfl) (by kernel_rfl) (fun _ _ _ h => h) (by kernel_rfl) hS ?_
        try simp only [List.setIfInBounds_toArray, List.set_cons_zero, List.set_cons_succ]
        refine takeH 25 61 (.bool true) rfl rfl (by kernel_rfl) (by kernel_rfl) (by kernel_rfl) (fun _ _ _ h => h) (by kernel_rfl) hS (fun W hW => ?_) ?_
        · clear hW
          clear hS
          go_simp
        try simp only [List.setIfInBounds_toArray, List.set_cons_zero, List.set_cons_succ]
        refine wpAnyH_done (by kernel_rfl) ?_ _
        clear hS
        go_wp2_with fail
        go_ret
        exact ⟨rfl, hB0.out.trans (hq.mono (by omega))⟩
    · as_aux_lemma =>
        have CF := HF
        rw [c1] at CF
        have CS1 := HS1
        rw [c2] at CS1
        clear HF HS1 HS2 HAP hgo c1 c2
        go_upto_region 4 with (fail)
        refine wp_region_held_drew (S := fun w' => Below w4.heap.size w4 w' ∧ w'.cell? ⟨w.heap.size, 0, none⟩ = some (.int .i64 kv) ∧ w'.cell? ⟨w.heap.size, 1, none⟩ = some (.int .i64 hhv) ∧ w'.cell? ⟨w.heap.size, 2, none⟩ = some (.string tv) ∧ w'.cell? ⟨w.heap.size, 3, none⟩ = some (.slice V1 i7 j7) ∧ w'.cell? ⟨w.heap.size, 4, none⟩ = some (.slice V2 i8 j8) ∧ w'.cell? ⟨w.heap.size, 5, none⟩ = some (.slice V3 i9 j9) ∧ w'.cell? ⟨g1, 0, none⟩ = some (.int .i64 kx) ∧ w'.cell? ⟨g1, 1, none⟩ = some (.int .i64 hhx) ∧ w'.cell? ⟨g1, 2, none⟩ = some (.string tx) ∧ w'.cell? ⟨g1, 3, none⟩ = some (.slice X1 i1 j1) ∧ w'.cell? ⟨g1, 4, none⟩ = some (.slice X2 i2 j2) ∧ w'.cell? ⟨g1, 5, none⟩ = some (.slice X3 i3 j3) ∧ w'.cell? ⟨g2, 0, none⟩ = some (.int .i64 ky) ∧ w'.cell? ⟨g2, 1, none⟩ = some (.int .i64 hhy) ∧ w'.cell? ⟨g2, 2, none⟩ = some (.string ty) ∧ w'.cell? ⟨g2, 3, none⟩ = some (.slice Y1 i4 j4) ∧ w'.cell? ⟨g2, 4, none⟩ = some (.slice Y2 i5 j5) ∧ w'.cell? ⟨g2, 5, none⟩ = some (.slice Y3 i6 j6)) (by kernel_rfl) (HCL.out _ (Below.refl _ _).drew) (fun hS => ?_)
        refine takeH 0 36 (.agg #[.int .i64 kv, .int .i64 hhv, .string tv, .slice V1 i7 j7, .slice V2 i8 j8, .slice V3 i9 j9]) rfl rfl (by kernel_rfl) (by kernel_rfl) (by kernel_rfl) (fun _ _ _ h => h) (by kernel_rfl) hS (fun W hW => ?_) ?_
        · obtain ⟨_, t0, t1, t2, t3, t4, t5, t6, t7, t8, t9, t10, t11, t12, t13, t14, t15, t16, t17⟩ := hW
          clear hS
          go_simp
        try simp only [List.setIfInBounds_toArray, List.set_cons_zero, List.set_cons_succ]
        refine takeH 1 37 (.slice P1 n1 m1) rfl rfl (by kernel_rfl) (by kernel_rfl) (by kernel_rfl) (fun _ _ _ h => h) (by kernel_rfl) hS (fun W hW => ?_) ?_
        · clear hW
          clear hS
          go_simp
        try simp only [List.setIfInBounds_toArray, List.set_cons_zero, List.set_cons_succ]
        refine takeH 3 39 (.slice P2 n2 m2) rfl rfl (by kernel_rfl) (by kernel_rfl) (by kernel_rfl) (fun _ _ _ h => h) (by kernel_rfl) hS (fun W hW => ?_) ?_
        · clear hW
          clear hS
          go_simp
        try simp only [List.setIfInBounds_toArray, List.set_cons_zero, List.set_cons_succ]
        refine takeH 5 41 (.agg #[.int .i64 kx, .int .i64 hhx, .string tx, .slice X1 i1 j1, .slice X2 i2 j2, .slice X3 i3 j3]) rfl rfl (by kernel_rfl) (by kernel_rfl) (by kernel_rfl) (fun _ _ _ h => h) (by kernel_rfl) hS (fun W hW => ?_) ?_
        · obtain ⟨_, t0, t1, t2, t3, t4, t5, t6, t7, t8, t9, t10, t11, t12, t13, t14, t15, t16, t17⟩ := hW
          clear hS
          go_simp
        try simp only [List.setIfInBounds_toArray, List.set_cons_zero, List.set_cons_succ]
        refine takeH 6 42 (.agg #[.int .i64 ky, .int .i64 hhy, .string ty, .slice Y1 i4 j4, .slice Y2 i5 j5, .slice Y3 i6 j6]) rfl rfl (by kernel_rfl) (by kernel_rfl) (by kernel_rfl) (fun _ _ _ h => h) (by kernel_rfl) hS (fun W hW => ?_) ?_
        · obtain ⟨_, t0, t1, t2, t3, t4, t5, t6, t7, t8, t9, t10, t11, t12, t13, t14, t15, t16, t17⟩ := hW
          clear hS
          go_simp
        try simp only [List.setIfInBounds_toArray, List.set_cons_zero, List.set_cons_succ]
        refine wpAnyH_ready (rs := [2]) (by kernel_rfl) (by simp) ?_
        refine AllReadyH.cons rfl (fun K hK => ?_) AllReadyH.nil
        clear hS
        go_simp
        refine (array_walk _ _ _ _).mono ?_
        rintro e wn ⟨rfl, hbn⟩
        go_wp2_with fail
        have hq := after_call hbn (Below.refl _ _).drew (Nat.le_refl _)
        clear hbn
        refine hK.out _ _ (HCL.out _ hq) (fun hS => ?_)
        clear hK K
        try simp only [Act.put, List.setIfInBounds_toArray, List.set_cons_zero, List.set_cons_succ]
        refine wpAnyH_ready (rs := [4]) (by kernel_rfl) (by simp) ?_
        refine AllReadyH.cons rfl (fun K hK => ?_) AllReadyH.nil
        clear hS
        go_simp
        refine (array_walk _ _ _ _).mono ?_
        rintro e wn ⟨rfl, hbn⟩
        go_wp2_with fail
        have hq := after_call hbn hq (Nat.le_refl _)
        clear hbn
        refine hK.out _ _ (HCL.out _ hq) (fun hS => ?_)
        clear hK K
        try simp only [Act.put, List.setIfInBounds_toArray, List.set_cons_zero, List.set_cons_succ]
        refine wpAnyH_ready (rs := [7]) (by kernel_rfl) (by simp) ?_
        refine AllReadyH.cons rfl (fun K hK => ?_) AllReadyH.nil
        clear hS
        refine step_build_five (by rfl) _ _ _ _ _ (by rfl) (by rfl) (by rfl) (by rfl) (by rfl) (by rfl) ?_
        have hr := heap_alloc_new wn (.cells #[.int .i64 kv, .int .i64 hhv, .string tv, .slice V1 i7 j7, .slice V2 i8 j8, .slice V3 i9 j9, .int .i64 5, .int .i64 0, .string ⟨#[]⟩, .slice P1 n1 m1, .slice none 0 0, .slice none 0 0, .int .i64 5, .int .i64 0, .string ⟨#[]⟩, .slice P2 n2 m2, .slice none 0 0, .slice none 0 0, .int .i64 kx, .int .i64 hhx, .string tx, .slice X1 i1 j1, .slice X2 i2 j2, .slice X3 i3 j3, .int .i64 ky, .int .i64 hhy, .string ty, .slice Y1 i4 j4, .slice Y2 i5 j5, .slice Y3 i6 j6] 26)
        have hq2 := alloc_keep hq (Nat.le_refl _) (.cells #[.int .i64 kv, .int .i64 hhv, .string tv, .slice V1 i7 j7, .slice V2 i8 j8, .slice V3 i9 j9, .int .i64 5, .int .i64 0, .string ⟨#[]⟩, .slice P1 n1 m1, .slice none 0 0, .slice none 0 0, .int .i64 5, .int .i64 0, .string ⟨#[]⟩, .slice P2 n2 m2, .slice none 0 0, .slice none 0 0, .int .i64 kx, .int .i64 hhx, .string tx, .slice X1 i1 j1, .slice X2 i2 j2, .slice X3 i3 j3, .int .i64 ky, .int .i64 hhy, .string ty, .slice Y1 i4 j4, .slice Y2 i5 j5, .slice Y3 i6 j6] 26)
        refine hK.out _ _ (HCL.out _ hq2) (fun hS => ?_)
        clear hK K
        try simp only [Act.put, List.setIfInBounds_toArray]
        refine wpAnyH_ready (rs := [8]) (by kernel_rfl) (by simp) ?_
        refine AllReadyH.cons rfl (fun K hK => ?_) AllReadyH.nil
        clear hS
        go_simp
        refine (CF.out _ _ hq2 hr).mono ?_
        rintro e wn ⟨rfl, hbn⟩
        go_wp2_with fail
        have hq := after_call hbn hq2 (Nat.le_refl _)
        clear hbn
        refine hK.out _ _ (HCL.out _ hq) (fun hS => ?_)
        clear hK K
        try simp only [Act.put, List.setIfInBounds_toArray, List.set_cons_zero, List.set_cons_succ]
        refine takeH 9 45 (.bool false) rfl rfl (by kernel_rfl) (by kernel_rfl) (by kernel_rfl) (fun _ _ _ h => h) (by kernel_rfl) hS (fun W hW => ?_) ?_
        · clear hW
          clear hS
          go_simp
        try simp only [List.setIfInBounds_toArray, List.set_cons_zero, List.set_cons_succ]
        refine takeH 10 46 (.bool false) rfl rfl (by kernel_rfl) (by kernel_rfl) (by kernel_rfl) (fun _ _ _ h => h) (by kernel_rfl) hS (fun W hW => ?_) ?_
        · clear hW
          clear hS
          go_simp
        try simp only [List.setIfInBounds_toArray, List.set_cons_zero, List.set_cons_succ]
        refine takeH 11 47 (.slice P1 n1 m1) rfl rfl (by kernel_rfl) (by kernel_rfl) (by kernel_rfl) (fun _ _ _ h => h) (by kernel_rfl) hS (fun W hW => ?_) ?_
        · clear hW
          clear hS
          go_simp
        try simp only [List.setIfInBounds_toArray, List.set_cons_zero, List.set_cons_succ]
        refine wpAnyH_ready (rs := [12]) (by kernel_rfl) (by simp) ?_
        refine AllReadyH.cons rfl (fun K hK => ?_) AllReadyH.nil
        clear hS
        go_simp
        refine (CS1.out _ hq).mono ?_
        rintro e wn ⟨rfl, hbn⟩
        go_wp2_with fail
        have hq := after_call hbn hq (Nat.le_refl _)
        clear hbn
        refine hK.out _ _ (HCL.out _ hq) (fun hS => ?_)
        clear hK K
        try simp only [Act.put, List.setIfInBounds_toArray, List.set_cons_zero, List.set_cons_succ]
        refine takeH 13 49 (.bool true) rfl rfl (by kernel_rfl) (by kernel_rfl) (by kernel_rfl) (fun _ _ _ h => h) (by kernel_rfl) hS (fun W hW => ?_) ?_
        · clear hW
          clear hS
          go_simp
        try simp only [List.setIfInBounds_toArray, List.set_cons_zero, List.set_cons_succ]
        refine takeH 14 50 (.bool true) rfl rfl (by kernel_rfl) (by kernel_rfl) (by kernel_rfl) (fun _ _ _ h => h) (by kernel_rfl) hS (fun W hW => ?_) ?_
        · clear hW
          clear hS
          go_simp
        try simp only [List.setIfInBounds_toArray, List.set_cons_zero, List.set_cons_succ]
        refine takeH 15 51 (.bool true) rfl rfl (by kernel_rfl) (by kernel_rfl) (by kernel_rfl) (fun _ _ _ h => h) (by kernel_rfl) hS (fun W hW => ?_) ?_
        · clear hW
          clear hS
          go_simp
        try simp only [List.setIfInBounds_toArray, List.set_cons_zero, List.set_cons_succ]
        refine skipH 16 52 rfl rfl (by kernel_rfl) (by kernel_rfl) (by kernel_rfl) (fun _ _ _ h => h) (by kernel_rfl) hS ?_
        try simp only [List.setIfInBounds_toArray, List.set_cons_zero, List.set_cons_succ]
        refine skipH 17 53 rfl rfl (by kernel_rfl) (by kernel_rfl) (by kernel_rfl) (fun _ _ _ h => h) (by kernel_rfl) hS ?_
        try simp only [List.setIfInBounds_toArray, List.set_cons_zero, List.set_cons_succ]
        refine skipH 18 54 rfl rfl (by kernel_rfl) (by kernel_rfl) (by kernel_rfl) (fun _ _ _ h => h) (by kernel_rfl) hS ?_
        try simp only [List.setIfInBounds_toArray, List.set_cons_zero, List.set_cons_succ]
        refine takeH 19 55 (.bool true) rfl rfl (by kernel_rfl) (by kernel_rfl) (by kernel_rfl) (fun _ _ _ h => h) (by kernel_rfl) hS (fun W hW => ?_) ?_
        · clear hW
          clear hS
          go_simp
        try simp only [List.setIfInBounds_toArray, List.set_cons_zero, List.set_cons_succ]
        refine takeH 20 56 (.bool true) rfl rfl (by kernel_rfl) (by kernel_rfl) (by kernel_rfl) (fun _ _ _ h => h) (by kernel_rfl) hS (fun W hW => ?_) ?_
        · clear hW
          clear hS
          go_simp
        try simp only [List.setIfInBounds_toArray, List.set_cons_zero, List.set_cons_succ]
        refine skipH 21 57 rfl rfl (by kernel_rfl) (by kernel_rfl) (by kernel_rfl) (fun _ _ _ h => h) (by kernel_rfl) hS ?_
        try simp only [List.setIfInBounds_toArray, List.set_cons_zero, List.set_cons_succ]
        refine skipH 22 58 rfl rfl (by kernel_rfl) (by kernel_rfl) (by kernel_rfl) (fun _ _ _ h => h) (by kernel_rfl) hS ?_
        try simp only [List.setIfInBounds_toArray, List.set_cons_zero, List.set_cons_succ]
        refine skipH 23 59 rfl rfl (by kernel_rfl) (by kernel_rfl) (by kernel_rfl) (fun _ _ _ h => h) (by kernel_rfl) hS ?_
        try simp only [List.setIfInBounds_toArray, List.set_cons_zero, List.set_cons_succ]
        refine skipH 24 60 rfl rfl (by kernel_rfl) (by kernel_rfl) (by kernel_rfl) (fun _ _ _ h => h) (by kernel_rfl) hS ?_
        try simp only [List.setIfInBounds_toArray, List.set_cons_zero, List.set_cons_succ]
        refine takeH 25 61 (.bool true) rfl rfl (by kernel_rfl) (by kernel_rfl) (by kernel_rfl) (fun _ _ _ h => h) (by kernel_rfl) hS (fun W hW => ?_) ?_
        · clear hW
          clear hS
          go_simp
        try simp only [List.setIfInBounds_toArray, List.set_cons_zero, List.set_cons_succ]
        refine wpAnyH_done (by kernel_rfl) ?_ _
        clear hS
        go_wp2_with fail
        go_ret
        exact ⟨rfl, hB0.out.trans (hq.mono (by omega))⟩
    · as_aux_lemma =>
        have CF := HF
        rw [c1] at CF
        have CS1 := HS1
        rw [c2] at CS1
        have CS2 := HS2
        rw [c3] at CS2
        clear HF HS1 HS2 HAP hgo c1 c2 c3
        go_upto_region 4 with (fail)
        refine wp_region_held_drew (S := fun w' => Below w4.heap.size w4 w' ∧ w'.cell? ⟨w.heap.size, 0, none⟩ = some (.int .i64 kv) ∧ w'.cell? ⟨w.heap.size, 1, none⟩ = some (.int .i64 hhv) ∧ w'.cell? ⟨w.heap.size, 2, none⟩ = some (.string tv) ∧ w'.cell? ⟨w.heap.size, 3, none⟩ = some (.slice V1 i7 j7) ∧ w'.cell? ⟨w.heap.size, 4, none⟩ = some (.slice V2 i8 j8) ∧ w'.cell? ⟨w.heap.size, 5, none⟩ = some (.slice V3 i9 j9) ∧ w'.cell? ⟨g1, 0, none⟩ = some (.int .i64 kx) ∧ w'.cell? ⟨g1, 1, none⟩ = some (.int .i64 hhx) ∧ w'.cell? ⟨g1, 2, none⟩ = some (.string tx) ∧ w'.cell? ⟨g1, 3, none⟩ = some (.slice X1 i1 j1) ∧ w'.cell? ⟨g1, 4, none⟩ = some (.slice X2 i2 j2) ∧ w'.cell? ⟨g1, 5, none⟩ = some (.slice X3 i3 j3) ∧ w'.cell? ⟨g2, 0, none⟩ = some (.int .i64 ky) ∧ w'.cell? ⟨g2, 1, none⟩ = some (.int .i64 hhy) ∧ w'.cell? ⟨g2, 2, none⟩ = some (.string ty) ∧ w'.cell? ⟨g2, 3, none⟩ = some (.slice Y1 i4 j4) ∧ w'.cell? ⟨g2, 4, none⟩ = some (.slice Y2 i5 j5) ∧ w'.cell? ⟨g2, 5, none⟩ = some (.slice Y3 i6 j6)) (by kernel_rfl) (HCL.out _ (Below.refl _ _).drew) (fun hS => ?_)
        refine takeH 0 36 (.agg #[.int .i64 kv, .int .i64 hhv, .string tv, .slice V1 i7 j7, .slice V2 i8 j8, .slice V3 i9 j9]) rfl rfl (by kernel_rfl) (by kernel_rfl) (by kernel_rfl) (fun _ _ _ h => h) (by kernel_rfl) hS (fun W hW => ?_) ?_
        · obtain ⟨_, t0, t1, t2, t3, t4, t5, t6, t7, t8, t9, t10, t11, t12, t13, t14, t15, t16, t17⟩ := hW
          clear hS
          go_simp
        try simp only [List.setIfInBounds_toArray, List.set_cons_zero, List.set_cons_succ]
        refine takeH 1 37 (.slice P1 n1 m1) rfl rfl (by kernel_rfl) (by kernel_rfl) (by kernel_rfl) (fun _ _ _ h => h) (by kernel_rfl) hS (fun W hW => ?_) ?_
        · clear hW
          clear hS
          go_simp
        try simp only [List.setIfInBounds_toArray, List.set_cons_zero, List.set_cons_succ]
        refine takeH 3 39 (.slice P2 n2 m2) rfl rfl (by kernel_rfl) (by kernel_rfl) (by kernel_rfl) (fun _ _ _ h => h) (by kernel_rfl) hS (fun W hW => ?_) ?_
        · clear hW
          clear hS
          go_simp
        try simp only [List.setIfInBounds_toArray, List.set_cons_zero, List.set_cons_succ]
        refine takeH 5 41 (.agg #[.int .i64 kx, .int .i64 hhx, .string tx, .slice X1 i1 j1, .slice X2 i2 j2, .slice X3 i3 j3]) rfl rfl (by kernel_rfl) (by kernel_rfl) (by kernel_rfl) (fun _ _ _ h => h) (by kernel_rfl) hS (fun W hW => ?_) ?_
        · obtain ⟨_, t0, t1, t2, t3, t4, t5, t6, t7, t8, t9, t10, t11, t12, t13, t14, t15, t16, t17⟩ := hW
          clear hS
          go_simp
        try simp only [List.setIfInBounds_toArray, List.set_cons_zero, List.set_cons_succ]
        refine takeH 6 42 (.agg #[.int .i64 ky, .int .i64 hhy, .string ty, .slice Y1 i4 j4, .slice Y2 i5 j5, .slice Y3 i6 j6]) rfl rfl (by kernel_rfl) (by kernel_rfl) (by kernel_rfl) (fun _ _ _ h => h) (by kernel_rfl) hS (fun W hW => ?_) ?_
        · obtain ⟨_, t0, t1, t2, t3, t4, t5, t6, t7, t8, t9, t10, t11, t12, t13, t14, t15, t16, t17⟩ := hW
          clear hS
          go_simp
        try simp only [List.setIfInBounds_toArray, List.set_cons_zero, List.set_cons_succ]
        refine wpAnyH_ready (rs := [2]) (by kernel_rfl) (by simp) ?_
        refine AllReadyH.cons rfl (fun K hK => ?_) AllReadyH.nil
        clear hS
        go_simp
        refine (array_walk _ _ _ _).mono ?_
        rintro e wn ⟨rfl, hbn⟩
        go_wp2_with fail
        have hq := after_call hbn (Below.refl _ _).drew (Nat.le_refl _)
        clear hbn
        refine hK.out _ _ (HCL.out _ hq) (fun hS => ?_)
        clear hK K
        try simp only [Act.put, List.setIfInBounds_toArray, List.set_cons_zero, List.set_cons_succ]
        refine wpAnyH_ready (rs := [4]) (by kernel_rfl) (by simp) ?_
        refine AllReadyH.cons rfl (fun K hK => ?_) AllReadyH.nil
        clear hS
        go_simp
        refine (array_walk _ _ _ _).mono ?_
        rintro e wn ⟨rfl, hbn⟩
        go_wp2_with fail
        have hq := after_call hbn hq (Nat.le_refl _)
        clear hbn
        refine hK.out _ _ (HCL.out _ hq) (fun hS => ?_)
        clear hK K
        try simp only [Act.put, List.setIfInBounds_toArray, List.set_cons_zero, List.set_cons_succ]
        refine wpAnyH_ready (rs := [7]) (by kernel_rfl) (by simp) ?_
        refine AllReadyH.cons rfl (fun K hK => ?_) AllReadyH.nil
        clear hS
        refine step_build_five (by rfl) _ _ _ _ _ (by rfl) (by rfl) (by rfl) (by rfl) (by rfl) (by rfl) ?_
        have hr := heap_alloc_new wn (.cells #[.int .i64 kv, .int .i64 hhv, .string tv, .slice V1 i7 j7, .slice V2 i8 j8, .slice V3 i9 j9, .int .i64 5, .int .i64 0, .string ⟨#[]⟩, .slice P1 n1 m1, .slice none 0 0, .slice none 0 0, .int .i64 5, .int .i64 0, .string ⟨#[]⟩, .slice P2 n2 m2, .slice none 0 0, .slice none 0 0, .int .i64 kx, .int .i64 hhx, .string tx, .slice X1 i1 j1, .slice X2 i2 j2, .slice X3 i3 j3, .int .i64 ky, .int .i64 hhy, .string ty, .slice Y1 i4 j4, .slice Y2 i5 j5, .slice Y3 i6 j6] 26)
        have hq2 := alloc_keep hq (Nat.le_refl _) (.cells #[.int .i64 kv, .int .i64 hhv, .string tv, .slice V1 i7 j7, .slice V2 i8 j8, .slice V3 i9 j9, .int .i64 5, .int .i64 0, .string ⟨#[]⟩, .slice P1 n1 m1, .slice none 0 0, .slice none 0 0, .int .i64 5, .int .i64 0, .string ⟨#[]⟩, .slice P2 n2 m2, .slice none 0 0, .slice none 0 0, .int .i64 kx, .int .i64 hhx, .string tx, .slice X1 i1 j1, .slice X2 i2 j2, .slice X3 i3 j3, .int .i64 ky, .int .i64 hhy, .string ty, .slice Y1 i4 j4, .slice Y2 i5 j5, .slice Y3 i6 j6] 26)
        refine hK.out _ _ (HCL.out _ hq2) (fun hS => ?_)
        clear hK K
        try simp only [Act.put, List.setIfInBounds_toArray]
        refine wpAnyH_ready (rs := [8]) (by kernel_rfl) (by simp) ?_
        refine AllReadyH.cons rfl (fun K hK => ?_) AllReadyH.nil
        clear hS
        go_simp
        refine (CF.out _ _ hq2 hr).mono ?_
        rintro e wn ⟨rfl, hbn⟩
        go_wp2_with fail
        have hq := after_call hbn hq2 (Nat.le_refl _)
        clear hbn
        refine hK.out _ _ (HCL.out _ hq) (fun hS => ?_)
        clear hK K
        try simp only [Act.put, List.setIfInBounds_toArray, List.set_cons_zero, List.set_cons_succ]
        refine takeH 9 45 (.bool false) rfl rfl (by kernel_rfl) (by kernel_rfl) (by kernel_rfl) (fun _ _ _ h => h) (by kernel_rfl) hS (fun W hW => ?_) ?_
        · clear hW
          clear hS
          go_simp
        try simp only [List.setIfInBounds_toArray, List.set_cons_zero, List.set_cons_succ]
        refine takeH 10 46 (.bool false) rfl rfl (by kernel_rfl) (by kernel_rfl) (by kernel_rfl) (fun _ _ _ h => h) (by kernel_rfl) hS (fun W hW => ?_) ?_
        · clear hW
          clear hS
          go_simp
        try simp only [List.setIfInBounds_toArray, List.set_cons_zero, List.set_cons_succ]
        refine takeH 11 47 (.slice P1 n1 m1) rfl rfl (by kernel_rfl) (by kernel_rfl) (by kernel_rfl) (fun _ _ _ h => h) (by kernel_rfl) hS (fun W hW => ?_) ?_
        · clear hW
          clear hS
          go_simp
        try simp only [List.setIfInBounds_toArray, List.set_cons_zero, List.set_cons_succ]
        refine wpAnyH_ready (rs := [12]) (by kernel_rfl) (by simp) ?_
        refine AllReadyH.cons rfl (fun K hK => ?_) AllReadyH.nil
        clear hS
        go_simp
        refine (CS1.out _ hq).mono ?_
        rintro e wn ⟨rfl, hbn⟩
        go_wp2_with fail
        have hq := after_call hbn hq (Nat.le_refl _)
        clear hbn
        refine hK.out _ _ (HCL.out _ hq) (fun hS => ?_)
        clear hK K
        try simp only [Act.put, List.setIfInBounds_toArray, List.set_cons_zero, List.set_cons_succ]
        refine takeH 13 49 (.bool false) rfl rfl (by kernel_rfl) (by kernel_rfl) (by kernel_rfl) (fun _ _ _ h => h) (by kernel_rfl) hS (fun W hW => ?_) ?_
        · clear hW
          clear hS
          go_simp
        try simp only [List.setIfInBounds_toArray, List.set_cons_zero, List.set_cons_succ]
        refine takeH 14 50 (.bool false) rfl rfl (by kernel_rfl) (by kernel_rfl) (by kernel_rfl) (fun _ _ _ h => h) (by kernel_rfl) hS (fun W hW => ?_) ?_
        · clear hW
          clear hS
          go_simp
        try simp only [List.setIfInBounds_toArray, List.set_cons_zero, List.set_cons_succ]
        refine takeH 15 51 (.bool false) rfl rfl (by kernel_rfl) (by kernel_rfl) (by kernel_rfl) (fun _ _ _ h => h) (by kernel_rfl) hS (fun W hW => ?_) ?_
        · clear hW
          clear hS
          go_simp
        try simp only [List.setIfInBounds_toArray, List.set_cons_zero, List.set_cons_succ]
        refine takeH 16 52 (.slice P2 n2 m2) rfl rfl (by kernel_rfl) (by kernel_rfl) (by kernel_rfl) (fun _ _ _ h => h) (by kernel_rfl) hS (fun W hW => ?_) ?_
        · clear hW
          clear hS
          go_simp
        try simp only [List.setIfInBounds_toArray, List.set_cons_zero, List.set_cons_succ]
        refine wpAnyH_ready (rs := [17]) (by kernel_rfl) (by simp) ?_
        refine AllReadyH.cons rfl (fun K hK => ?_) AllReadyH.nil
        clear hS
        go_simp
        refine (CS2.out _ hq).mono ?_
        rintro e wn ⟨rfl, hbn⟩
        go_wp2_with fail
        have hq := after_call hbn hq (Nat.le_refl _)
        clear hbn
        refine hK.out _ _ (HCL.out _ hq) (fun hS => ?_)
        clear hK K
        try simp only [Act.put, List.setIfInBounds_toArray, List.set_cons_zero, List.set_cons_succ]
        refine takeH 18 54 (.bool true) rfl rfl (by kernel_rfl) (by kernel_rfl) (by kernel_rfl) (fun _ _ _ h => h) (by kernel_rfl) hS (fun W hW => ?_) ?_
        · clear hW
          clear hS
          go_simp
        try simp only [List.setIfInBounds_toArray, List.set_cons_zero, List.set_cons_succ]
        refine takeH 19 55 (.bool true) rfl rfl (by kernel_rfl) (by kernel_rfl) (by kernel_rfl) (fun _ _ _ h => h) (by kernel_rfl) hS (fun W hW => ?_) ?_
        · clear hW
          clear hS
          go_simp
        try simp only [List.setIfInBounds_toArray, List.set_cons_zero, List.set_cons_succ]
        refine takeH 20 56 (.bool true) rfl rfl (by kernel_rfl) (by kernel_rfl) (by kernel_rfl) (fun _ _ _ h => h) (by kernel_rfl) hS (fun W hW => ?_) ?_
        · clear hW
          clear hS
          go_simp
        try simp only [List.setIfInBounds_toArray, List.set_cons_zero, List.set_cons_succ]
        refine skipH 21 57 rfl rfl (by kernel_rfl) (by kernel_rfl) (by kernel_rfl) (fun _ _ _ h => h) (by kernel_rfl) hS ?_
        try simp only [List.setIfInBounds_toArray, List.set_cons_zero, List.set_cons_succ]
        refine skipH 22 58 rfl rfl (by kernel_rfl) (by kernel_rfl) (by kernel_rfl) (fun _ _ _ h => h) (by kernel_rfl) hS ?_
        try simp only [List.setIfInBounds_toArray, List.set_cons_zero, List.set_cons_succ]
        refine skipH 23 59 rfl rfl (by kernel_rfl) (by kernel_rfl) (by kernel_rfl) (fun _ _ _ h => h) (by kernel_rfl) hS ?_
        try simp only [List.setIfInBounds_toArray, List.set_cons_zero, List.set_cons_succ]
        refine skipH 24 60 rfl rfl (by kernel_rfl) (by kernel_rfl) (by kernel_rfl) (fun _ _ _ h => h) (by kernel_rfl) hS ?_
        try simp only [List.setIfInBounds_toArray, List.set_cons_zero, List.set_cons_succ]
        refine takeH 25 61 (.bool true) rfl rfl (by kernel_rfl) (by kernel_rfl) (by kernel_rfl) (fun _ _ _ h => h) (by kernel_rfl) hS (fun W hW => ?_) ?_
        · clear hW
          clear hS
          go_simp
        try simp only [List.setIfInBounds_toArray, List.set_cons_zero, List.set_cons_succ]
        refine wpAnyH_done (by kernel_rfl) ?_ _
        clear hS
        go_wp2_with fail
        go_ret
        exact ⟨rfl, hB0.out.trans (hq.mono (by omega))⟩
    · as_aux_lemma =>
        have CF := HF
        rw [c1] at CF
        have CS1 := HS1
        rw [c2] at CS1
        have CS2 := HS2
        rw [c3] at CS2
        have CA := Lib.hid (HAP.out c2 c3)
        rw [c4] at CA
        clear HF HS1 HS2 HAP hgo c1 c2 c3 c4
        go_upto_region 4 with (fail)
        refine wp_region_held_drew (S := fun w' => Below w4.heap.size w4 w' ∧ w'.cell? ⟨w.heap.size, 0, none⟩ = some (.int .i64 kv) ∧ w'.cell? ⟨w.heap.size, 1, none⟩ = some (.int .i64 hhv) ∧ w'.cell? ⟨w.heap.size, 2, none⟩ = some (.string tv) ∧ w'.cell? ⟨w.heap.size, 3, none⟩ = some (.slice V1 i7 j7) ∧ w'.cell? ⟨w.heap.size, 4, none⟩ = some (.slice V2 i8 j8) ∧ w'.cell? ⟨w.heap.size, 5, none⟩ = some (.slice V3 i9 j9) ∧ w'.cell? ⟨g1, 0, none⟩ = some (.int .i64 kx) ∧ w'.cell? ⟨g1, 1, none⟩ = some (.int .i64 hhx) ∧ w'.cell? ⟨g1, 2, none⟩ = some (.string tx) ∧ w'.cell? ⟨g1, 3, none⟩ = some (.slice X1 i1 j1) ∧ w'.cell? ⟨g1, 4, none⟩ = some (.slice X2 i2 j2) ∧ w'.cell? ⟨g1, 5, none⟩ = some (.slice X3 i3 j3) ∧ w'.cell? ⟨g2, 0, none⟩ = some (.int .i64 ky) ∧ w'.cell? ⟨g2, 1, none⟩ = some (.int .i64 hhy) ∧ w'.cell? ⟨g2, 2, none⟩ = some (.string ty) ∧ w'.cell? ⟨g2, 3, none⟩ = some (.slice Y1 i4 j4) ∧ w'.cell? ⟨g2, 4, none⟩ = some (.slice Y2 i5 j5) ∧ w'.cell? ⟨g2, 5, none⟩ = some (.slice Y3 i6 j6)) (by kernel_rfl) (HCL.out _ (Below.refl _ _).drew) (fun hS => ?_)
        refine takeH 0 36 (.agg #[.int .i64 kv, .int .i64 hhv, .string tv, .slice V1 i7 j7, .slice V2 i8 j8, .slice V3 i9 j9]) rfl rfl (by kernel_rfl) (by kernel_rfl) (by kernel_rfl) (fun _ _ _ h => h) (by kernel_rfl) hS (fun W hW => ?_) ?_
        · obtain ⟨_, t0, t1, t2, t3, t4, t5, t6, t7, t8, t9, t10, t11, t12, t13, t14, t15, t16, t17⟩ := hW
          clear hS
          go_simp
        try simp only [List.setIfInBounds_toArray, List.set_cons_zero, List.set_cons_succ]
        refine takeH 1 37 (.slice P1 n1 m1) rfl rfl (by kernel_rfl) (by kernel_rfl) (by kernel_rfl) (fun _ _ _ h => h) (by kernel_rfl) hS (fun W hW => ?_) ?_
        · clear hW
          clear hS
          go_simp
        try simp only [List.setIfInBounds_toArray, List.set_cons_zero, List.set_cons_succ]
        refine takeH 3 39 (.slice P2 n2 m2) rfl rfl (by kernel_rfl) (by kernel_rfl) (by kernel_rfl) (fun _ _ _ h => h) (by kernel_rfl) hS (fun W hW => ?_) ?_
        · clear hW
          clear hS
          go_simp
        try simp only [List.setIfInBounds_toArray, List.set_cons_zero, List.set_cons_succ]
        refine takeH 5 41 (.agg #[.int .i64 kx, .int .i64 hhx, .string tx, .slice X1 i1 j1, .slice X2 i2 j2, .slice X3 i3 j3]) rfl rfl (by kernel_rfl) (by kernel_rfl) (by kernel_rfl) (fun _ _ _ h => h) (by kernel_rfl) hS (fun W hW => ?_) ?_
        · obtain ⟨_, t0, t1, t2, t3, t4, t5, t6, t7, t8, t9, t10, t11, t12, t13, t14, t15, t16, t17⟩ := hW
          clear hS
          go_simp
        try simp only [List.setIfInBounds_toArray, List.set_cons_zero, List.set_cons_succ]
        refine takeH 6 42 (.agg #[.int .i64 ky, .int .i64 hhy, .string ty, .slice Y1 i4 j4, .slice Y2 i5 j5, .slice Y3 i6 j6]) rfl rfl (by kernel_rfl) (by kernel_rfl) (by kernel_rfl) (fun _ _ _ h => h) (by kernel_rfl) hS (fun W hW => ?_) ?_
        · obtain ⟨_, t0, t1, t2, t3, t4, t5, t6, t7, t8, t9, t10, t11, t12, t13, t14, t15, t16, t17⟩ := hW
          clear hS
          go_simp
        try simp only [List.setIfInBounds_toArray, List.set_cons_zero, List.set_cons_succ]
        refine wpAnyH_ready (rs := [2]) (by kernel_rfl) (by simp) ?_
        refine AllReadyH.cons rfl (fun K hK => ?_) AllReadyH.nil
        clear hS
        go_simp
        refine (array_walk _ _ _ _).mono ?_
        rintro e wn ⟨rfl, hbn⟩
        go_wp2_with fail
        have hq := after_call hbn (Below.refl _ _).drew (Nat.le_refl _)
        clear hbn
        refine hK.out _ _ (HCL.out _ hq) (fun hS => ?_)
        clear hK K
        try simp only [Act.put, List.setIfInBounds_toArray, List.set_cons_zero, List.set_cons_succ]
        refine wpAnyH_ready (rs := [4]) (by kernel_rfl) (by simp) ?_
        refine AllReadyH.cons rfl (fun K hK => ?_) AllReadyH.nil
        clear hS
        go_simp
        refine (array_walk _ _ _ _).mono ?_
        rintro e wn ⟨rfl, hbn⟩
        go_wp2_with fail
        have hq := after_call hbn hq (Nat.le_refl _)
        clear hbn
        refine hK.out _ _ (HCL.out _ hq) (fun hS => ?_)
        clear hK K
        try simp only [Act.put, List.setIfInBounds_toArray, List.set_cons_zero, List.set_cons_succ]
        refine wpAnyH_ready (rs := [7]) (by kernel_rfl) (by simp) ?_
        refine AllReadyH.cons rfl (fun K hK => ?_) AllReadyH.nil
        clear hS
        refine step_build_five (by rfl) _ _ _ _ _ (by rfl) (by rfl) (by rfl) (by rfl) (by rfl) (by rfl) ?_
        have hr := heap_alloc_new wn (.cells #[.int .i64 kv, .int .i64 hhv, .string tv, .slice V1 i7 j7, .slice V2 i8 j8, .slice V3 i9 j9, .int .i64 5, .int .i64 0, .string ⟨#[]⟩, .slice P1 n1 m1, .slice none 0 0, .slice none 0 0, .int .i64 5, .int .i64 0, .string ⟨#[]⟩, .slice P2 n2 m2, .slice none 0 0, .slice none 0 0, .int .i64 kx, .int .i64 hhx, .string tx, .slice X1 i1 j1, .slice X2 i2 j2, .slice X3 i3 j3, .int .i64 ky, .int .i64 hhy, .string ty, .slice Y1 i4 j4, .slice Y2 i5 j5, .slice Y3 i6 j6] 26)
        have hq2 := alloc_keep hq (Nat.le_refl _) (.cells #[.int .i64 kv, .int .i64 hhv, .string tv, .slice V1 i7 j7, .slice V2 i8 j8, .slice V3 i9 j9, .int .i64 5, .int .i64 0, .string ⟨#[]⟩, .slice P1 n1 m1, .slice none 0 0, .slice none 0 0, .int .i64 5, .int .i64 0, .string ⟨#[]⟩, .slice P2 n2 m2, .slice none 0 0, .slice none 0 0, .int .i64 kx, .int .i64 hhx, .string tx, .slice X1 i1 j1, .slice X2 i2 j2, .slice X3 i3 j3, .int .i64 ky, .int .i64 hhy, .string ty, .slice Y1 i4 j4, .slice Y2 i5 j5, .slice Y3 i6 j6] 26)
        refine hK.out _ _ (HCL.out _ hq2) (fun hS => ?_)
        clear hK K
        try simp only [Act.put, List.setIfInBounds_toArray]
        refine wpAnyH_ready (rs := [8]) (by kernel_rfl) (by simp) ?_
        refine AllReadyH.cons rfl (fun K hK => ?_) AllReadyH.nil
        clear hS
        go_simp
        refine (CF.out _ _ hq2 hr).mono ?_
        rintro e wn ⟨rfl, hbn⟩
        go_wp2_with fail
        have hq := after_call hbn hq2 (Nat.le_refl _)
        clear hbn
        refine hK.out _ _ (HCL.out _ hq) (fun hS => ?_)
        clear hK K
        try simp only [Act.put, List.setIfInBounds_toArray, List.set_cons_zero, List.set_cons_succ]
        refine takeH 9 45 (.bool false) rfl rfl (by kernel_rfl) (by kernel_rfl) (by kernel_rfl) (fun _ _ _ h => h) (by kernel_rfl) hS (fun W hW => ?_) ?_
        · clear hW
          clear hS
          go_simp
        try simp only [List.setIfInBounds_toArray, List.set_cons_zero, List.set_cons_succ]
        refine takeH 10 46 (.bool false) rfl rfl (by kernel_rfl) (by kernel_rfl) (by kernel_rfl) (fun _ _ _ h => h) (by kernel_rfl) hS (fun W hW => ?_) ?_
        · clear hW
          clear hS
          go_simp
        try simp only [List.setIfInBounds_toArray, List.set_cons_zero, List.set_cons_succ]
        refine takeH 11 47 (.slice P1 n1 m1) rfl rfl (by kernel_rfl) (by kernel_rfl) (by kernel_rfl) (fun _ _ _ h => h) (by kernel_rfl) hS (fun W hW => ?_) ?_
        · clear hW
          clear hS
          go_simp
        try simp only [List.setIfInBounds_toArray, List.set_cons_zero, List.set_cons_succ]
        refine wpAnyH_ready (rs := [12]) (by kernel_rfl) (by simp) ?_
        refine AllReadyH.cons rfl (fun K hK => ?_) AllReadyH.nil
        clear hS
        go_simp
        refine (CS1.out _ hq).mono ?_
        rintro e wn ⟨rfl, hbn⟩
        go_wp2_with fail
        have hq := after_call hbn hq (Nat.le_refl _)
        clear hbn
        refine hK.out _ _ (HCL.out _ hq) (fun hS => ?_)
        clear hK K
        try simp only [Act.put, List.setIfInBounds_toArray, List.set_cons_zero, List.set_cons_succ]
        refine takeH 13 49 (.bool false) rfl rfl (by kernel_rfl) (by kernel_rfl) (by kernel_rfl) (fun _ _ _ h => h) (by kernel_rfl) hS (fun W hW => ?_) ?_
        · clear hW
          clear hS
          go_simp
        try simp only [List.setIfInBounds_toArray, List.set_cons_zero, List.set_cons_succ]
        refine takeH 14 50 (.bool false) rfl rfl (by kernel_rfl) (by kernel_rfl) (by kernel_rfl) (fun _ _ _ h => h) (by kernel_rfl) hS (fun W hW => ?_) ?_
        · clear hW
          clear hS
          go_simp
        try simp only [List.setIfInBounds_toArray, List.set_cons_zero, List.set_cons_succ]
        refine takeH 15 51 (.bool false) rfl rfl (by kernel_rfl) (by kernel_rfl) (by kernel_rfl) (fun _ _ _ h => h) (by kernel_rfl) hS (fun W hW => ?_) ?_
        · clear hW
          clear hS
          go_simp
        try simp only [List.setIfInBounds_toArray, List.set_cons_zero, List.set_cons_succ]
        refine takeH 16 52 (.slice P2 n2 m2) rfl rfl (by kernel_rfl) (by kernel_rfl) (by kernel_rfl) (fun _ _ _ h => h) (by kernel_rfl) hS (fun W hW => ?_) ?_
        · clear hW
          clear hS
          go_simp
        try simp only [List.setIfInBounds_toArray, List.set_cons_zero, List.set_cons_succ]
        refine wpAnyH_ready (rs := [17]) (by kernel_rfl) (by simp) ?_
        refine AllReadyH.cons rfl (fun K hK => ?_) AllReadyH.nil
        clear hS
        go_simp
        refine (CS2.out _ hq).mono ?_
        rintro e wn ⟨rfl, hbn⟩
        go_wp2_with fail
        have hq := after_call hbn hq (Nat.le_refl _)
        clear hbn
        refine hK.out _ _ (HCL.out _ hq) (fun hS => ?_)
        clear hK K
        try simp only [Act.put, List.setIfInBounds_toArray, List.set_cons_zero, List.set_cons_succ]
        refine takeH 18 54 (.bool false) rfl rfl (by kernel_rfl) (by kernel_rfl) (by kernel_rfl) (fun _ _ _ h => h) (by kernel_rfl) hS (fun W hW => ?_) ?_
        · clear hW
          clear hS
          go_simp
        try simp only [List.setIfInBounds_toArray, List.set_cons_zero, List.set_cons_succ]
        refine takeH 19 55 (.bool false) rfl rfl (by kernel_rfl) (by kernel_rfl) (by kernel_rfl) (fun _ _ _ h => h) (by kernel_rfl) hS (fun W hW => ?_) ?_
        · clear hW
          clear hS
          go_simp
        try simp only [List.setIfInBounds_toArray, List.set_cons_zero, List.set_cons_succ]
        refine takeH 20 56 (.bool false) rfl rfl (by kernel_rfl) (by kernel_rfl) (by kernel_rfl) (fun _ _ _ h => h) (by kernel_rfl) hS (fun W hW => ?_) ?_
        · clear hW
          clear hS
          go_simp
        try simp only [List.setIfInBounds_toArray, List.set_cons_zero, List.set_cons_succ]
        refine takeH 21 57 (.slice P1 n1 m1) rfl rfl (by kernel_rfl) (by kernel_rfl) (by kernel_rfl) (fun _ _ _ h => h) (by kernel_rfl) hS (fun W hW => ?_) ?_
        · clear hW
          clear hS
          go_simp
        try simp only [List.setIfInBounds_toArray, List.set_cons_zero, List.set_cons_succ]
        refine takeH 22 58 (.slice P2 n2 m2) rfl rfl (by kernel_rfl) (by kernel_rfl) (by kernel_rfl) (fun _ _ _ h => h) (by kernel_rfl) hS (fun W hW => ?_) ?_
        · clear hW
          clear hS
          go_simp
        try simp only [List.setIfInBounds_toArray, List.set_cons_zero, List.set_cons_succ]
        refine wpAnyH_ready (rs := [23]) (by kernel_rfl) (by simp) ?_
        refine AllReadyH.cons rfl (fun K hK => ?_) AllReadyH.nil
        clear hS
        go_simp
        refine (CA.out _ hq).mono ?_
        rintro e wn ⟨rfl, hbn⟩
        go_wp2_with fail
        have hq := after_call hbn hq (Nat.le_refl _)
        clear hbn
        refine hK.out _ _ (HCL.out _ hq) (fun hS => ?_)
        clear hK K
        try simp only [Act.put, List.setIfInBounds_toArray, List.set_cons_zero, List.set_cons_succ]
        refine takeH 24 60 (.bool true) rfl rfl (by kernel_rfl) (by kernel_rfl) (by kernel_rfl) (fun _ _ _ h => h) (by kernel_rfl) hS (fun W hW => ?_) ?_
        · clear hW
          clear hS
          go_simp
        try simp only [List.setIfInBounds_toArray, List.set_cons_zero, List.set_cons_succ]
        refine takeH 25 61 (.bool true) rfl rfl (by kernel_rfl) (by kernel_rfl) (by kernel_rfl) (fun _ _ _ h => h) (by kernel_rfl) hS (fun W hW => ?_) ?_
        · clear hW
          clear hS
          go_simp
        try simp only [List.setIfInBounds_toArray, List.set_cons_zero, List.set_cons_succ]
        refine wpAnyH_done (by kernel_rfl) ?_ _
        clear hS
        go_wp2_with fail
        go_ret
        exact ⟨rfl, hB0.out.trans (hq.mono (by omega))⟩
    · exact absurd c1 hgo
end Go.Proofs.YtmjegeipnaalnaaGreatDoor
