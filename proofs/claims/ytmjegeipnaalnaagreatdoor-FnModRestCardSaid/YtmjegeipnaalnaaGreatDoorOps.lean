/- The doors of the thin package on two integers. -/
import Derived.Test.YtmjegeipnaalnaaGreatDoorInt
namespace Go.Proofs.YtmjegeipnaalnaaGreatDoor
open Go.RowKit
theorem three_new (w : World) (A B C : Obj) : (((w.alloc A).alloc B).alloc C).heap[w.heap.size]? = some A ∧ (((w.alloc A).alloc B).alloc C).heap[w.heap.size + 1]? = some B ∧ (((w.alloc A).alloc B).alloc C).heap[w.heap.size + 2]? = some C := by
  have e1 : (w.alloc A).heap.size = w.heap.size + 1 := by simp
  have e2 : ((w.alloc A).alloc B).heap.size = w.heap.size + 2 := by simp
  refine ⟨?_, ?_, ?_⟩
  · rw [Below.heap_alloc _ _ _ (by omega), Below.heap_alloc _ _ _ (by omega)]; exact heap_alloc_new w A
  · rw [Below.heap_alloc _ _ _ (by omega), ← e1]; exact heap_alloc_new _ B
  · rw [← e2]; exact heap_alloc_new _ C

set_option maxHeartbeats 4000000 in
set_option maxRecDepth 100000 in
theorem OpMul_walk (x y z : Int) (t1 l1 k1 v1 t2 l2 k2 v2 : Value) (w : World) (hx : 0 ≤ x) (hx' : x ≤ 9007199254740992) (hy : 0 ≤ y) (hy' : y ≤ 9007199254740992) (hz : 0 ≤ z) (hz' : z ≤ 1125899906842624) (hd : DoorInt 50 x y z) :
    Calls Tryz.prog 20 #[.agg #[.int .i64 3, .int .i64 (2 * x), t1, l1, k1, v1], .agg #[.int .i64 3, .int .i64 (2 * y), t2, l2, k2, v2]] w fun e w' => e = .returned (numR (2 * z)) ∧ Below w.heap.size w w' := by
  have HD := Lib.hid hd
  clear hd
  obtain ⟨hX0, hX1, hX2⟩ := three_new w (.cells #[.int .i64 3, .int .i64 (2 * x), t1, l1, k1, v1] 26) (.cells #[.int .i64 3, .int .i64 (2 * y), t2, l2, k2, v2] 26) (.cells #[.int .i64 0, .int .i64 0, .string ⟨#[]⟩, .slice none 0 0, .slice none 0 0, .slice none 0 0, .int .i64 0] 34)
  have hB := (((Below.refl w.heap.size w).alloc (Nat.le_refl _) (.cells #[.int .i64 3, .int .i64 (2 * x), t1, l1, k1, v1] 26)).alloc (by simp) (.cells #[.int .i64 3, .int .i64 (2 * y), t2, l2, k2, v2] 26)).alloc (by simp; omega) (.cells #[.int .i64 0, .int .i64 0, .string ⟨#[]⟩, .slice none 0 0, .slice none 0 0, .slice none 0 0, .int .i64 0] 34)
  go_enter Tryz.func20, Tryz.ntmps20
  go_wp2_with fail
  refine (toGo_two x t1 l1 k1 v1 _ hx hx').mono ?_
  rintro e w4 ⟨rfl, hb⟩
  replace hX1 := kept_below hb (by simp) hX1
  replace hX2 := kept_below hb (by simp) hX2
  have hlt : w.heap.size + 2 < w4.heap.size := by have := hb.size; simp at this; omega
  replace hB := hB.trans (hb.mono (by simp; omega))
  clear hb hX0
  obtain ⟨x0, x1, x2, x3, x4, x5⟩ := box6 hX1
  go_wp2_with fail
  refine (toGo_two y t2 l2 k2 v2 _ hy hy').mono ?_
  rintro e w5 ⟨rfl, hb⟩
  replace hX2 := kept_below hb (by omega) hX2
  have hlt5 : w.heap.size + 2 < w5.heap.size := by have := hb.size; omega
  replace hB := hB.trans (hb.mono (by omega))
  clear hb hX1 x0 x1 x2 x3 x4 x5 hlt
  go_wp2_with fail
  refine (HD.out _).mono ?_
  rintro e w6 ⟨rfl, rfl⟩
  go_wp2_with fail
  refine (result_int z _ (by omega) (by omega)).mono ?_
  rintro e w7 ⟨rfl, hb⟩
  replace hX2 := kept_below hb (by omega) hX2
  have hlt7 : w.heap.size + 2 < w7.heap.size := by have := hb.size; omega
  replace hB := hB.trans (hb.mono (by omega))
  clear hb hlt5
  obtain ⟨x0, x1, x2, x3, x4, x5, x6⟩ := box7 hX2
  obtain ⟨f0, f1, f2, f3, f4, f5, f6⟩ := frozen7 hX2
  unfold numR
  go_wp2
  refine bodyPost_ret (v := .agg #[.int .i64 3, .int .i64 (2 * z), .string ⟨#[]⟩, .slice none 0 0, .slice none 0 0, .slice none 0 0, .int .i64 0]) (by simp [results, Tryz.results20, go_sem, *]) rfl ⟨rfl, ?_⟩
  exact (((((((hB.setCell (by simp; omega) _).setCell (by simp; omega) _).setCell (by simp; omega) _).setCell (by simp; omega) _).setCell (by simp; omega) _).setCell (by simp; omega) _).setCell (by simp; omega) _)

set_option maxHeartbeats 4000000 in
set_option maxRecDepth 100000 in
theorem OpAdd_walk (x y z : Int) (t1 l1 k1 v1 t2 l2 k2 v2 : Value) (w : World) (hx : 0 ≤ x) (hx' : x ≤ 9007199254740992) (hy : 0 ≤ y) (hy' : y ≤ 9007199254740992) (hz : 0 ≤ z) (hz' : z ≤ 1125899906842624) (hd : DoorInt 49 x y z) :
    Calls Tryz.prog 19 #[.agg #[.int .i64 3, .int .i64 (2 * x), t1, l1, k1, v1], .agg #[.int .i64 3, .int .i64 (2 * y), t2, l2, k2, v2]] w fun e w' => e = .returned (numR (2 * z)) ∧ Below w.heap.size w w' := by
  have HD := Lib.hid hd
  clear hd
  obtain ⟨hX0, hX1, hX2⟩ := three_new w (.cells #[.int .i64 3, .int .i64 (2 * x), t1, l1, k1, v1] 26) (.cells #[.int .i64 3, .int .i64 (2 * y), t2, l2, k2, v2] 26) (.cells #[.int .i64 0, .int .i64 0, .string ⟨#[]⟩, .slice none 0 0, .slice none 0 0, .slice none 0 0, .int .i64 0] 34)
  have hB := (((Below.refl w.heap.size w).alloc (Nat.le_refl _) (.cells #[.int .i64 3, .int .i64 (2 * x), t1, l1, k1, v1] 26)).alloc (by simp) (.cells #[.int .i64 3, .int .i64 (2 * y), t2, l2, k2, v2] 26)).alloc (by simp; omega) (.cells #[.int .i64 0, .int .i64 0, .string ⟨#[]⟩, .slice none 0 0, .slice none 0 0, .slice none 0 0, .int .i64 0] 34)
  go_enter Tryz.func19, Tryz.ntmps19
  go_wp2_with fail
  refine (toGo_two x t1 l1 k1 v1 _ hx hx').mono ?_
  rintro e w4 ⟨rfl, hb⟩
  replace hX1 := kept_below hb (by simp) hX1
  replace hX2 := kept_below hb (by simp) hX2
  have hlt : w.heap.size + 2 < w4.heap.size := by have := hb.size; simp at this; omega
  replace hB := hB.trans (hb.mono (by simp; omega))
  clear hb hX0
  obtain ⟨x0, x1, x2, x3, x4, x5⟩ := box6 hX1
  go_wp2_with fail
  refine (toGo_two y t2 l2 k2 v2 _ hy hy').mono ?_
  rintro e w5 ⟨rfl, hb⟩
  replace hX2 := kept_below hb (by omega) hX2
  have hlt5 : w.heap.size + 2 < w5.heap.size := by have := hb.size; omega
  replace hB := hB.trans (hb.mono (by omega))
  clear hb hX1 x0 x1 x2 x3 x4 x5 hlt
  go_wp2_with fail
  refine (HD.out _).mono ?_
  rintro e w6 ⟨rfl, rfl⟩
  go_wp2_with fail
  refine (result_int z _ (by omega) (by omega)).mono ?_
  rintro e w7 ⟨rfl, hb⟩
  replace hX2 := kept_below hb (by omega) hX2
  have hlt7 : w.heap.size + 2 < w7.heap.size := by have := hb.size; omega
  replace hB := hB.trans (hb.mono (by omega))
  clear hb hlt5
  obtain ⟨x0, x1, x2, x3, x4, x5, x6⟩ := box7 hX2
  obtain ⟨f0, f1, f2, f3, f4, f5, f6⟩ := frozen7 hX2
  unfold numR
  go_wp2
  refine bodyPost_ret (v := .agg #[.int .i64 3, .int .i64 (2 * z), .string ⟨#[]⟩, .slice none 0 0, .slice none 0 0, .slice none 0 0, .int .i64 0]) (by simp [results, Tryz.results19, go_sem, *]) rfl ⟨rfl, ?_⟩
  exact (((((((hB.setCell (by simp; omega) _).setCell (by simp; omega) _).setCell (by simp; omega) _).setCell (by simp; omega) _).setCell (by simp; omega) _).setCell (by simp; omega) _).setCell (by simp; omega) _)

set_option maxHeartbeats 4000000 in
set_option maxRecDepth 100000 in
theorem OpMod_walk (x y z : Int) (t1 l1 k1 v1 t2 l2 k2 v2 : Value) (w : World) (hx : 0 ≤ x) (hx' : x ≤ 9007199254740992) (hy : 0 ≤ y) (hy' : y ≤ 9007199254740992) (hz : 0 ≤ z) (hz' : z ≤ 1125899906842624) (hd : DoorInt 51 x y z) :
    Calls Tryz.prog 21 #[.agg #[.int .i64 3, .int .i64 (2 * x), t1, l1, k1, v1], .agg #[.int .i64 3, .int .i64 (2 * y), t2, l2, k2, v2]] w fun e w' => e = .returned (numR (2 * z)) ∧ Below w.heap.size w w' := by
  have HD := Lib.hid hd
  clear hd
  obtain ⟨hX0, hX1, hX2⟩ := three_new w (.cells #[.int .i64 3, .int .i64 (2 * x), t1, l1, k1, v1] 26) (.cells #[.int .i64 3, .int .i64 (2 * y), t2, l2, k2, v2] 26) (.cells #[.int .i64 0, .int .i64 0, .string ⟨#[]⟩, .slice none 0 0, .slice none 0 0, .slice none 0 0, .int .i64 0] 34)
  have hB := (((Below.refl w.heap.size w).alloc (Nat.le_refl _) (.cells #[.int .i64 3, .int .i64 (2 * x), t1, l1, k1, v1] 26)).alloc (by simp) (.cells #[.int .i64 3, .int .i64 (2 * y), t2, l2, k2, v2] 26)).alloc (by simp; omega) (.cells #[.int .i64 0, .int .i64 0, .string ⟨#[]⟩, .slice none 0 0, .slice none 0 0, .slice none 0 0, .int .i64 0] 34)
  go_enter Tryz.func21, Tryz.ntmps21
  go_wp2_with fail
  refine (toGo_two x t1 l1 k1 v1 _ hx hx').mono ?_
  rintro e w4 ⟨rfl, hb⟩
  replace hX1 := kept_below hb (by simp) hX1
  replace hX2 := kept_below hb (by simp) hX2
  have hlt : w.heap.size + 2 < w4.heap.size := by have := hb.size; simp at this; omega
  replace hB := hB.trans (hb.mono (by simp; omega))
  clear hb hX0
  obtain ⟨x0, x1, x2, x3, x4, x5⟩ := box6 hX1
  go_wp2_with fail
  refine (toGo_two y t2 l2 k2 v2 _ hy hy').mono ?_
  rintro e w5 ⟨rfl, hb⟩
  replace hX2 := kept_below hb (by omega) hX2
  have hlt5 : w.heap.size + 2 < w5.heap.size := by have := hb.size; omega
  replace hB := hB.trans (hb.mono (by omega))
  clear hb hX1 x0 x1 x2 x3 x4 x5 hlt
  go_wp2_with fail
  refine (HD.out _).mono ?_
  rintro e w6 ⟨rfl, rfl⟩
  go_wp2_with fail
  refine (result_int z _ (by omega) (by omega)).mono ?_
  rintro e w7 ⟨rfl, hb⟩
  replace hX2 := kept_below hb (by omega) hX2
  have hlt7 : w.heap.size + 2 < w7.heap.size := by have := hb.size; omega
  replace hB := hB.trans (hb.mono (by omega))
  clear hb hlt5
  obtain ⟨x0, x1, x2, x3, x4, x5, x6⟩ := box7 hX2
  obtain ⟨f0, f1, f2, f3, f4, f5, f6⟩ := frozen7 hX2
  unfold numR
  go_wp2
  refine bodyPost_ret (v := .agg #[.int .i64 3, .int .i64 (2 * z), .string ⟨#[]⟩, .slice none 0 0, .slice none 0 0, .slice none 0 0, .int .i64 0]) (by simp [results, Tryz.results21, go_sem, *]) rfl ⟨rfl, ?_⟩
  exact (((((((hB.setCell (by simp; omega) _).setCell (by simp; omega) _).setCell (by simp; omega) _).setCell (by simp; omega) _).setCell (by simp; omega) _).setCell (by simp; omega) _).setCell (by simp; omega) _)
end Go.Proofs.YtmjegeipnaalnaaGreatDoor
