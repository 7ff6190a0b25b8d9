/- The reference's containment, called by its name. -/
import Derived.Test.YtmjegeipnaalnaaGreatDoorSaid
import Derived.Test.YtmjegeipnaalnaaGreatDoorVague
namespace Go.Proofs.YtmjegeipnaalnaaGreatDoor
open Go.RowKit

set_option maxRecDepth 100000 in
set_option maxHeartbeats 4000000 in
theorem along_walk (x y : JV) (vx vy : Value) (w : World) (hx : JVal w w.heap.size x vx) (hy : JVal w w.heap.size y vy) (gx : Good x) (gy : Good y) :
    Calls Tryz.prog 37 #[.string ⟨#[99, 111, 110, 116, 97, 105, 110, 115]⟩, vx, vy] w fun e w' => e = .returned (.tuple #[kV (saidK x y), .int .i64 (saidHow x y)]) ∧ Below w.heap.size w w' := by
  have HALL := Lib.hid (fun W a b c d => contains_walk x y vx vy W a b c d)
  generalize saidK x y = kz at *
  generalize saidHow x y = hz at *
  obtain ⟨k, h, t, l, ks, vs⟩ := x
  obtain ⟨k', h', t', l', ks', vs'⟩ := y
  obtain ⟨a0, a1, a2, rfl, _⟩ := hx.laid
  obtain ⟨b0, b1, b2, rfl, _⟩ := hy.laid
  obtain ⟨hA, hB, hC⟩ := three_new' w (.cells #[.int .i64 k, .int .i64 h, .string t, a0, a1, a2] 26) (.cells #[.int .i64 k', .int .i64 h', .string t', b0, b1, b2] 26) (.cells #[.int .i64 0, .int .i64 0, .string ⟨#[]⟩, .slice none 0 0, .slice none 0 0, .slice none 0 0] 26)
  have hw := (((Below.refl w.heap.size w).alloc (Nat.le_refl _) (.cells #[.int .i64 k, .int .i64 h, .string t, a0, a1, a2] 26)).alloc (by simp) (.cells #[.int .i64 k', .int .i64 h', .string t', b0, b1, b2] 26)).alloc (by simp; omega) (.cells #[.int .i64 0, .int .i64 0, .string ⟨#[]⟩, .slice none 0 0, .slice none 0 0, .slice none 0 0] 26)
  have hsz : w.heap.size + 2 < (((w.alloc (.cells #[.int .i64 k, .int .i64 h, .string t, a0, a1, a2] 26)).alloc (.cells #[.int .i64 k', .int .i64 h', .string t', b0, b1, b2] 26)).alloc (.cells #[.int .i64 0, .int .i64 0, .string ⟨#[]⟩, .slice none 0 0, .slice none 0 0, .slice none 0 0] 26)).heap.size := by simp
  unfold kV
  go_enter Tryz.func37, Tryz.ntmps37
  go_upto_region 1 with (fail)
  generalize (((w.alloc (.cells #[.int .i64 k, .int .i64 h, .string t, a0, a1, a2] 26)).alloc (.cells #[.int .i64 k', .int .i64 h', .string t', b0, b1, b2] 26)).alloc (.cells #[.int .i64 0, .int .i64 0, .string ⟨#[]⟩, .slice none 0 0, .slice none 0 0, .slice none 0 0] 26)) = w1 at *
  obtain ⟨p0, p1, p2, p3, p4, p5⟩ := box6 hA
  obtain ⟨q0, q1, q2, q3, q4, q5⟩ := box6 hB
  have C := Lib.hid (HALL.out w1 (hx.below hw (by omega)) (hy.below hw (by omega)) gx gy)
  clear HALL hx hy gx gy
  go_wp2_with fail
  refine C.out.mono ?_
  rintro e w2 ⟨rfl, hb⟩
  replace hC := kept_below hb (by omega) hC
  replace hw := hw.trans (hb.mono (by omega))
  have hsz2 : w.heap.size + 2 < w2.heap.size := by have := hb.size; omega
  clear p0 p1 p2 p3 p4 p5 q0 q1 q2 q3 q4 q5 hb hsz hA hB C
  obtain ⟨x0, x1, x2, x3, x4, x5⟩ := box6 hC
  obtain ⟨f0, f1, f2, f3, f4, f5, _⟩ := frozen7 hC
  have HB := Lib.hid (below_set6 hw (Nat.le_add_right _ 2) (.int .i64 kz) (.int .i64 0) (.string ⟨#[]⟩) (.slice none 0 0) (.slice none 0 0) (.slice none 0 0))
  clear hw
  unfold kV
  go_wp2
  refine bodyPost_ret (v := .tuple #[.agg #[.int .i64 kz, .int .i64 0, .string ⟨#[]⟩, .slice none 0 0, .slice none 0 0, .slice none 0 0], .int .i64 hz]) (by simp [results, Tryz.results37, go_sem, *]) rfl ⟨rfl, ?_⟩
  exact HB.out

set_option maxRecDepth 100000 in
set_option maxHeartbeats 1000000 in
theorem Array_walk (A : Option Addr) (n c : Nat) (w : World) :
    Calls Tryz.prog 13 #[.slice A n c] w fun e w' => e = .returned (.agg #[.int .i64 5, .int .i64 0, .string ⟨#[]⟩, .slice A n c, .slice none 0 0, .slice none 0 0]) ∧ Below w.heap.size w w' := by
  have hX := heap_alloc_new w (.cells #[.int .i64 0, .int .i64 0, .string ⟨#[]⟩, .slice none 0 0, .slice none 0 0, .slice none 0 0] 26)
  have hB := (Below.refl w.heap.size w).alloc (Nat.le_refl _) (.cells #[.int .i64 0, .int .i64 0, .string ⟨#[]⟩, .slice none 0 0, .slice none 0 0, .slice none 0 0] 26)
  have hsz : w.heap.size < (w.alloc (.cells #[.int .i64 0, .int .i64 0, .string ⟨#[]⟩, .slice none 0 0, .slice none 0 0, .slice none 0 0] 26)).heap.size := by simp
  go_enter Tryz.func13, Tryz.ntmps13
  go_upto_region 1 with (fail)
  generalize w.alloc (.cells #[.int .i64 0, .int .i64 0, .string ⟨#[]⟩, .slice none 0 0, .slice none 0 0, .slice none 0 0] 26) = w1 at *
  obtain ⟨x0, x1, x2, x3, x4, x5⟩ := box6 hX
  obtain ⟨f0, f1, f2, f3, f4, f5, _⟩ := frozen7 hX
  have HB := Lib.hid (below_set6 hB (Nat.le_refl _) (.int .i64 5) (.int .i64 0) (.string ⟨#[]⟩) (.slice A n c) (.slice none 0 0) (.slice none 0 0))
  clear hB
  go_wp2
  refine bodyPost_ret (v := .agg #[.int .i64 5, .int .i64 0, .string ⟨#[]⟩, .slice A n c, .slice none 0 0, .slice none 0 0]) (by simp [results, Tryz.results13, go_sem, *]) rfl ⟨rfl, ?_⟩
  exact HB.out
end Go.Proofs.YtmjegeipnaalnaaGreatDoor
