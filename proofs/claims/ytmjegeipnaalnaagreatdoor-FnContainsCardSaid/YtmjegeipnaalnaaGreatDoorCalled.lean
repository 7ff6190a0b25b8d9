/- The reference's functions called by name: containment. -/
import Derived.Test.YtmjegeipnaalnaaGreatDoorCall
import Derived.Deep.RegionHeld3
namespace Go.Proofs.YtmjegeipnaalnaaGreatDoor
open Go.RowKit

theorem good_one {y : JV} (hy : Good y) : Good (.mk 5 0 ⟨#[]⟩ [y] [] []) := by
  unfold Good
  refine ⟨by simp [JV.headOk], by simp [JV.halfOk], by unfold Rising; trivial, ?_, by unfold GoodL; trivial⟩
  unfold GoodL
  exact ⟨hy, by unfold GoodL; trivial⟩

theorem lt_of_at' {w : World} {k : Nat} {o : Obj} (h : w.heap[k]? = some o) : k < w.heap.size := (Array.getElem?_eq_some_iff.1 h).1
theorem cellsCall {w4 w' : World} {N ba : Nat} {a0 a1 a2 a3 a4 a5 b0 b1 b2 b3 b4 b5 : Value} (h : Below (N + 1) w4 w') (hA : w4.heap[N]? = some (.cells #[a0, a1, a2, a3, a4, a5] 26)) (hb : ba < N + 1)
    (y0 : w4.cell? ⟨ba, 0, none⟩ = some b0) (y1 : w4.cell? ⟨ba, 1, none⟩ = some b1) (y2 : w4.cell? ⟨ba, 2, none⟩ = some b2) (y3 : w4.cell? ⟨ba, 3, none⟩ = some b3) (y4 : w4.cell? ⟨ba, 4, none⟩ = some b4) (y5 : w4.cell? ⟨ba, 5, none⟩ = some b5) :
    Below (N + 1) w4 w' ∧ w'.cell? ⟨N, 0, none⟩ = some a0 ∧ w'.cell? ⟨N, 1, none⟩ = some a1 ∧ w'.cell? ⟨N, 2, none⟩ = some a2 ∧ w'.cell? ⟨N, 3, none⟩ = some a3 ∧ w'.cell? ⟨N, 4, none⟩ = some a4 ∧ w'.cell? ⟨N, 5, none⟩ = some a5 ∧
      w'.cell? ⟨ba, 0, none⟩ = some b0 ∧ w'.cell? ⟨ba, 1, none⟩ = some b1 ∧ w'.cell? ⟨ba, 2, none⟩ = some b2 ∧ w'.cell? ⟨ba, 3, none⟩ = some b3 ∧ w'.cell? ⟨ba, 4, none⟩ = some b4 ∧ w'.cell? ⟨ba, 5, none⟩ = some b5 := by
  obtain ⟨p0, p1, p2, p3, p4, p5⟩ := box6 (kept_below h (by omega) hA)
  exact ⟨h, p0, p1, p2, p3, p4, p5, (h.cell (p := ⟨ba, 0, none⟩) hb).trans y0, (h.cell (p := ⟨ba, 1, none⟩) hb).trans y1, (h.cell (p := ⟨ba, 2, none⟩) hb).trans y2, (h.cell (p := ⟨ba, 3, none⟩) hb).trans y3, (h.cell (p := ⟨ba, 4, none⟩) hb).trans y4, (h.cell (p := ⟨ba, 5, none⟩) hb).trans y5⟩

set_option maxRecDepth 100000 in
set_option maxHeartbeats 8000000 in
theorem Call_walk (x y : JV) (vx : Value) (ba : Nat) (w : World) (hx : JVal w w.heap.size x vx) (hy : JCells w w.heap.size [y] ba 0) (gx : Good x) (gy : Good y) :
    Calls Tryz.prog 9 #[.string ⟨#[99, 111, 110, 116, 97, 105, 110, 115]⟩, vx, .slice (some ⟨ba, 0, none⟩) 1 1] w fun e w' => e = .returned (.tuple #[kV (saidK x y), .int .i64 (saidHow x y)]) ∧ Below w.heap.size w w' := by
  have HAL := Lib.hid (fun W vx vy a b => along_walk x y vx vy W a b gx gy)
  generalize saidK x y = kz at *
  generalize saidHow x y = hz at *
  have HVX := Lib.hid (vague_all x)
  have HVY := Lib.hid (vague_all (.mk 5 0 ⟨#[]⟩ [y] [] []))
  have HGY := Lib.hid (good_one gy)
  obtain ⟨k, h, t, l, ks, vs⟩ := x
  obtain ⟨a0, a1, a2, rfl, _⟩ := hx.laid
  obtain ⟨hA, hC⟩ := two_new w (.cells #[.int .i64 k, .int .i64 h, .string t, a0, a1, a2] 26) (.cells #[.int .i64 0, .int .i64 0, .string ⟨#[]⟩, .slice none 0 0, .slice none 0 0, .slice none 0 0] 26)
  have hw := ((Below.refl w.heap.size w).alloc (Nat.le_refl _) (.cells #[.int .i64 k, .int .i64 h, .string t, a0, a1, a2] 26)).alloc (by simp) (.cells #[.int .i64 0, .int .i64 0, .string ⟨#[]⟩, .slice none 0 0, .slice none 0 0, .slice none 0 0] 26)
  have hsz : w.heap.size + 1 < ((w.alloc (.cells #[.int .i64 k, .int .i64 h, .string t, a0, a1, a2] 26)).alloc (.cells #[.int .i64 0, .int .i64 0, .string ⟨#[]⟩, .slice none 0 0, .slice none 0 0, .slice none 0 0] 26)).heap.size := by simp
  unfold kV
  go_enter Tryz.func9, Tryz.ntmps9
  go_upto_region 5 with (fail)
  generalize ((w.alloc (.cells #[.int .i64 k, .int .i64 h, .string t, a0, a1, a2] 26)).alloc (.cells #[.int .i64 0, .int .i64 0, .string ⟨#[]⟩, .slice none 0 0, .slice none 0 0, .slice none 0 0] 26)) = w1 at *
  obtain ⟨p0, p1, p2, p3, p4, p5⟩ := box6 hA
  have C1 := Lib.hid (HVX.out _ w1 (hx.below hw (by omega)) gx)
  go_wp2_with fail
  refine C1.out.mono ?_
  rintro e w2 ⟨rfl, hb⟩
  replace hA := kept_below hb (by omega) hA
  replace hC := kept_below hb (by omega) hC
  replace hw := hw.trans (hb.mono (by omega))
  replace hsz : w.heap.size + 1 < w2.heap.size := by have := hb.size; omega
  clear hb p0 p1 p2 p3 p4 p5 C1 HVX
  go_wp2_with fail
  refine (Array_walk _ _ _ w2).mono ?_
  rintro e w3 ⟨rfl, hb⟩
  replace hA := kept_below hb (by omega) hA
  replace hC := kept_below hb (by omega) hC
  replace hw := hw.trans (hb.mono (by omega))
  replace hsz : w.heap.size + 1 < w3.heap.size := by have := hb.size; omega
  clear hb
  have hy3 := JCells.below hw (show w.heap.size ≤ w3.heap.size by omega) [y] ba 0 hy
  have hb0 : ba < w.heap.size := by unfold JCells at hy; exact hy.1
  have C2 := Lib.hid (HVY.out (.agg #[.int .i64 5, .int .i64 0, .string ⟨#[]⟩, .slice (some ⟨ba, 0, none⟩) 1 1, .slice none 0 0, .slice none 0 0]) w3
    (JVal.mk' ⟨by decide, by decide⟩ ⟨by decide, by decide⟩ (by decide) ⟨_, 1, rfl, by simp, by decide, .inr ⟨ba, 0, rfl, hy3⟩⟩ ⟨_, 0, rfl, by simp, by decide, .inl rfl⟩ ⟨_, 0, rfl, by simp, by decide, .inl rfl⟩) HGY.out)
  clear hy3
  go_wp2_with fail
  refine C2.out.mono ?_
  rintro e w4 ⟨rfl, hb⟩
  replace hA := kept_below hb (by omega) hA
  replace hC := kept_below hb (by omega) hC
  replace hw := hw.trans (hb.mono (by omega))
  replace hsz : w.heap.size + 1 < w4.heap.size := by have := hb.size; omega
  clear hb C2 HVY HGY
  go_upto_region 11 with (fail)
  obtain ⟨p0, p1, p2, p3, p4, p5⟩ := box6 hA
  obtain ⟨_, d0, d1, d2, d3, d4, d5, hRep, y0, y1, y2, y3, y4, y5⟩ := (JCells.below hw (Nat.le_refl _) [y] ba 0 hy).at6 0 (by simp)
  obtain ⟨k1, h1, t1, A1, n1, m1, A2, n2, m2, A4, n3, m3, rfl, rfl, rfl, rfl, rfl, rfl⟩ := hRep.shape
  simp only [Nat.zero_mul, Nat.add_zero, Nat.zero_add] at y0 y1 y2 y3 y4 y5
  have hwN : w.heap.size + 1 ≤ w4.heap.size := by omega
  have HS := Lib.hid (fun w' (hb : Below (w.heap.size + 1) w4 w') => cellsCall hb hA (show ba < w.heap.size + 1 by omega) y0 y1 y2 y3 y4 y5)
  have C := Lib.hid (fun W (hW : Below w4.heap.size w4 W) => HAL.out W (.agg #[.int .i64 k, .int .i64 h, .string t, a0, a1, a2]) (.agg #[.int .i64 k1, .int .i64 h1, .string t1, .slice A1 n1 m1, .slice A2 n2 m2, .slice A4 n3 m3]) (hx.below (hw.trans (hW.mono (by omega))) (by have := hW.size; omega)) ⟨_, _, _, _, _, _, rfl, hRep.below (hW.mono (by omega)) (by have := hW.size; omega)⟩ |>.mono (fun e w' hr => (⟨hr.1, hW.trans (hr.2.mono hW.size)⟩ : e = _ ∧ Below w4.heap.size w4 w')))
  have HW := Lib.hid hw
  clear HAL hRep hw hx hy hA p0 p1 p2 p3 p4 p5 y0 y1 y2 y3 y4 y5
  go_region_held3 (fun w' => Below (w.heap.size + 1) w4 w' ∧ w'.cell? ⟨w.heap.size, 0, none⟩ = some (.int .i64 k) ∧ w'.cell? ⟨w.heap.size, 1, none⟩ = some (.int .i64 h) ∧ w'.cell? ⟨w.heap.size, 2, none⟩ = some (.string t) ∧ w'.cell? ⟨w.heap.size, 3, none⟩ = some a0 ∧ w'.cell? ⟨w.heap.size, 4, none⟩ = some a1 ∧ w'.cell? ⟨w.heap.size, 5, none⟩ = some a2 ∧
      w'.cell? ⟨ba, 0, none⟩ = some (.int .i64 k1) ∧ w'.cell? ⟨ba, 1, none⟩ = some (.int .i64 h1) ∧ w'.cell? ⟨ba, 2, none⟩ = some (.string t1) ∧ w'.cell? ⟨ba, 3, none⟩ = some (.slice A1 n1 m1) ∧ w'.cell? ⟨ba, 4, none⟩ = some (.slice A2 n2 m2) ∧ w'.cell? ⟨ba, 5, none⟩ = some (.slice A4 n3 m3))
    (first
      | with_reducible exact HS.out _ h5
      | with_reducible exact HS.out _ (below_set6 h5 (Nat.le_refl _) _ _ _ _ _ _)
      | with_reducible exact HS.out _ (Below.refl _ _).drew
      | with_reducible exact HS.out _ (Below.refl _ _))
    (first
      | (go_at_call 37; refine (C.out _ (by (first | with_reducible exact (Below.refl _ _).drew | with_reducible exact Below.refl _ _))).mono ?_; rintro e w5 ⟨rfl, hb5⟩; unfold kV; have h5 : Below (w.heap.size + 1) w4 w5 := hb5.mono hwN; have hC5 := kept_below hb5 hsz hC; have hlt5 : w.heap.size + 1 < w5.heap.size := lt_of_at' hC5; obtain ⟨x0, x1, x2, x3, x4, x5⟩ := box6 hC5; obtain ⟨f0, f1, f2, f3, f4, f5, f6⟩ := frozen7 hC5))
  have HB := Lib.hid (below_set6 (HW.out.trans (h5.mono (Nat.le_succ _))) (Nat.le_succ w.heap.size) (.int .i64 kz) (.int .i64 0) (.string ⟨#[]⟩) (.slice none 0 0) (.slice none 0 0) (.slice none 0 0))
  go_wp2
  refine bodyPost_ret (v := .tuple #[.agg #[.int .i64 kz, .int .i64 0, .string ⟨#[]⟩, .slice none 0 0, .slice none 0 0, .slice none 0 0], .int .i64 hz]) (by simp [results, Tryz.results9, go_sem, *]) rfl ⟨rfl, ?_⟩
  exact HB.out
end Go.Proofs.YtmjegeipnaalnaaGreatDoor
