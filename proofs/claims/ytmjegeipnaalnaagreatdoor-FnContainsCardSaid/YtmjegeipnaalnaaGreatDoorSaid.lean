/- What the reference says of containment: a boolean as a value, the call by name; nothing of a right value is vague. -/
import Derived.Test.YtmjegeipnaalnaaGreatDoorHoldsA
namespace Go.Proofs.YtmjegeipnaalnaaGreatDoor
open Go.RowKit

/-- A value that is its kind alone. -/
def kV (k : Int) : Value := .agg #[.int .i64 k, .int .i64 0, .string ⟨#[]⟩, .slice none 0 0, .slice none 0 0, .slice none 0 0]
def truthK (z : Bool) : Int := if z then 2 else 1

theorem three_new' (w : World) (A B C : Obj) : (((w.alloc A).alloc B).alloc C).heap[w.heap.size]? = some A ∧ (((w.alloc A).alloc B).alloc C).heap[w.heap.size + 1]? = some B ∧ (((w.alloc A).alloc B).alloc C).heap[w.heap.size + 2]? = some C := by
  have e2 : ((w.alloc A).alloc B).heap.size = w.heap.size + 2 := by simp
  obtain ⟨h1, h2⟩ := two_new w A B
  refine ⟨?_, ?_, ?_⟩
  · rw [Below.heap_alloc _ _ _ (by omega)]; exact h1
  · rw [Below.heap_alloc _ _ _ (by omega)]; exact h2
  · rw [← e2]; exact heap_alloc_new _ C

set_option maxRecDepth 100000 in
set_option maxHeartbeats 1000000 in
theorem Bool_walk (z : Bool) (w : World) : Calls Tryz.prog 31 #[.bool z] w fun e w' => e = .returned (kV (truthK z)) ∧ Below w.heap.size w w' := by
  have hX := heap_alloc_new w (.cells #[.int .i64 0, .int .i64 0, .string ⟨#[]⟩, .slice none 0 0, .slice none 0 0, .slice none 0 0] 26)
  have hB := (Below.refl w.heap.size w).alloc (Nat.le_refl _) (.cells #[.int .i64 0, .int .i64 0, .string ⟨#[]⟩, .slice none 0 0, .slice none 0 0, .slice none 0 0] 26)
  have hsz : w.heap.size < (w.alloc (.cells #[.int .i64 0, .int .i64 0, .string ⟨#[]⟩, .slice none 0 0, .slice none 0 0, .slice none 0 0] 26)).heap.size := by simp
  unfold kV
  cases z
  · rw [show truthK false = 1 from rfl]
    go_enter Tryz.func31, Tryz.ntmps31
    go_upto_region 1 with (fail)
    generalize w.alloc (.cells #[.int .i64 0, .int .i64 0, .string ⟨#[]⟩, .slice none 0 0, .slice none 0 0, .slice none 0 0] 26) = w1 at *
    obtain ⟨x0, x1, x2, x3, x4, x5⟩ := box6 hX
    obtain ⟨f0, f1, f2, f3, f4, f5, _⟩ := frozen7 hX
    have HB := Lib.hid (below_set6 hB (Nat.le_refl _) (.int .i64 1) (.int .i64 0) (.string ⟨#[]⟩) (.slice none 0 0) (.slice none 0 0) (.slice none 0 0))
    clear hB
    go_wp2
    refine bodyPost_ret (v := .agg #[.int .i64 1, .int .i64 0, .string ⟨#[]⟩, .slice none 0 0, .slice none 0 0, .slice none 0 0]) (by simp [results, Tryz.results31, go_sem, *]) rfl ⟨rfl, ?_⟩
    exact HB.out
  · rw [show truthK true = 2 from rfl]
    go_enter Tryz.func31, Tryz.ntmps31
    go_upto_region 1 with (fail)
    generalize w.alloc (.cells #[.int .i64 0, .int .i64 0, .string ⟨#[]⟩, .slice none 0 0, .slice none 0 0, .slice none 0 0] 26) = w1 at *
    obtain ⟨x0, x1, x2, x3, x4, x5⟩ := box6 hX
    obtain ⟨f0, f1, f2, f3, f4, f5, _⟩ := frozen7 hX
    have HB := Lib.hid (below_set6 hB (Nat.le_refl _) (.int .i64 2) (.int .i64 0) (.string ⟨#[]⟩) (.slice none 0 0) (.slice none 0 0) (.slice none 0 0))
    clear hB
    go_wp2
    refine bodyPost_ret (v := .agg #[.int .i64 2, .int .i64 0, .string ⟨#[]⟩, .slice none 0 0, .slice none 0 0, .slice none 0 0]) (by simp [results, Tryz.results31, go_sem, *]) rfl ⟨rfl, ?_⟩
    exact HB.out

/-- What the reference answers to containment: the answer's kind and how it ended. -/
def saidK (x y : JV) : Int := if x.kind = y.kind then truthK (holdsV x y) else 0
def saidHow (x y : JV) : Int := if x.kind = y.kind then 0 else 2

set_option maxRecDepth 100000 in
set_option maxHeartbeats 4000000 in
theorem contains_walk (x y : JV) (vx vy : Value) (w : World) (hx : JVal w w.heap.size x vx) (hy : JVal w w.heap.size y vy) (gx : Good x) (gy : Good y) :
    Calls Tryz.prog 67 #[vx, vy] w fun e w' => e = .returned (.tuple #[kV (saidK x y), .int .i64 (saidHow x y)]) ∧ Below w.heap.size w w' := by
  obtain ⟨k, h, t, l, ks, vs⟩ := x
  obtain ⟨k', h', t', l', ks', vs'⟩ := y
  obtain ⟨a0, a1, a2, rfl, _⟩ := hx.laid
  obtain ⟨b0, b1, b2, rfl, _⟩ := hy.laid
  obtain ⟨hA, hB, hC⟩ := three_new' w (.cells #[.int .i64 k, .int .i64 h, .string t, a0, a1, a2] 26) (.cells #[.int .i64 k', .int .i64 h', .string t', b0, b1, b2] 26) (.cells #[.int .i64 0, .int .i64 0, .string ⟨#[]⟩, .slice none 0 0, .slice none 0 0, .slice none 0 0] 26)
  have hw := (((Below.refl w.heap.size w).alloc (Nat.le_refl _) (.cells #[.int .i64 k, .int .i64 h, .string t, a0, a1, a2] 26)).alloc (by simp) (.cells #[.int .i64 k', .int .i64 h', .string t', b0, b1, b2] 26)).alloc (by simp; omega) (.cells #[.int .i64 0, .int .i64 0, .string ⟨#[]⟩, .slice none 0 0, .slice none 0 0, .slice none 0 0] 26)
  have hsz : w.heap.size + 2 < (((w.alloc (.cells #[.int .i64 k, .int .i64 h, .string t, a0, a1, a2] 26)).alloc (.cells #[.int .i64 k', .int .i64 h', .string t', b0, b1, b2] 26)).alloc (.cells #[.int .i64 0, .int .i64 0, .string ⟨#[]⟩, .slice none 0 0, .slice none 0 0, .slice none 0 0] 26)).heap.size := by simp
  have HALL := Lib.hid (holds_all (.mk k' h' t' l' ks' vs'))
  by_cases hk : k = k'
  · subst hk
    rw [show saidK (.mk k h t l ks vs) (.mk k h' t' l' ks' vs') = truthK (holdsV (.mk k h t l ks vs) (.mk k h' t' l' ks' vs')) from if_pos rfl, show saidHow (.mk k h t l ks vs) (.mk k h' t' l' ks' vs') = 0 from if_pos rfl]
    obtain ⟨z, hz⟩ : ∃ z, holdsV (.mk k h t l ks vs) (.mk k h' t' l' ks' vs') = z := ⟨_, rfl⟩
    rw [hz]
    have HZ := Lib.hid hz
    clear hz
    obtain ⟨kz, hkz⟩ : ∃ kz, truthK z = kz := ⟨_, rfl⟩
    rw [hkz]
    have HKZ := Lib.hid hkz
    clear hkz
    unfold kV
    go_enter Tryz.func67, Tryz.ntmps67
    go_upto_region 1 with (fail)
    generalize (((w.alloc (.cells #[.int .i64 k, .int .i64 h, .string t, a0, a1, a2] 26)).alloc (.cells #[.int .i64 k, .int .i64 h', .string t', b0, b1, b2] 26)).alloc (.cells #[.int .i64 0, .int .i64 0, .string ⟨#[]⟩, .slice none 0 0, .slice none 0 0, .slice none 0 0] 26)) = w1 at *
    obtain ⟨p0, p1, p2, p3, p4, p5⟩ := box6 hA
    obtain ⟨q0, q1, q2, q3, q4, q5⟩ := box6 hB
    have c := HALL.out (.mk k h t l ks vs) _ _ w1 (hx.below hw (by omega)) (hy.below hw (by omega)) gx gy
    rw [HZ.out] at c
    have C := Lib.hid c
    clear c HALL hx hy gx gy
    go_wp2_with fail
    refine C.out.mono ?_
    rintro e w2 ⟨rfl, hb⟩
    replace hC := kept_below hb (by omega) hC
    replace hw := hw.trans (hb.mono (by omega))
    have hsz2 : w.heap.size + 2 < w2.heap.size := by have := hb.size; omega
    clear p0 p1 p2 p3 p4 p5 q0 q1 q2 q3 q4 q5 hb hsz hA hB
    go_wp2_with fail
    refine (Bool_walk z w2).mono ?_
    rintro e w3 ⟨rfl, hb⟩
    rw [HKZ.out]
    replace hC := kept_below hb (by omega) hC
    replace hw := hw.trans (hb.mono (by omega))
    have hsz3 : w.heap.size + 2 < w3.heap.size := by have := hb.size; omega
    clear hb hsz2
    obtain ⟨x0, x1, x2, x3, x4, x5⟩ := box6 hC
    obtain ⟨f0, f1, f2, f3, f4, f5, _⟩ := frozen7 hC
    unfold kV
    have HB := Lib.hid (below_set6 hw (Nat.le_add_right _ 2) (.int .i64 kz) (.int .i64 0) (.string ⟨#[]⟩) (.slice none 0 0) (.slice none 0 0) (.slice none 0 0))
    clear hw
    go_wp2
    refine bodyPost_ret (v := .tuple #[.agg #[.int .i64 kz, .int .i64 0, .string ⟨#[]⟩, .slice none 0 0, .slice none 0 0, .slice none 0 0], .int .i64 0]) (by simp [results, Tryz.results67, go_sem, *]) rfl ⟨rfl, ?_⟩
    exact HB.out
  · rw [show saidK (.mk k h t l ks vs) (.mk k' h' t' l' ks' vs') = 0 from if_neg hk, show saidHow (.mk k h t l ks vs) (.mk k' h' t' l' ks' vs') = 2 from if_neg hk]
    unfold kV
    go_enter Tryz.func67, Tryz.ntmps67
    go_upto_region 1 with (fail)
    generalize (((w.alloc (.cells #[.int .i64 k, .int .i64 h, .string t, a0, a1, a2] 26)).alloc (.cells #[.int .i64 k', .int .i64 h', .string t', b0, b1, b2] 26)).alloc (.cells #[.int .i64 0, .int .i64 0, .string ⟨#[]⟩, .slice none 0 0, .slice none 0 0, .slice none 0 0] 26)) = w1 at *
    obtain ⟨p0, p1, p2, p3, p4, p5⟩ := box6 hA
    obtain ⟨q0, q1, q2, q3, q4, q5⟩ := box6 hB
    obtain ⟨x0, x1, x2, x3, x4, x5⟩ := box6 hC
    obtain ⟨f0, f1, f2, f3, f4, f5, _⟩ := frozen7 hC
    have HB := Lib.hid (below_set6 hw (Nat.le_add_right _ 2) (.int .i64 0) (.int .i64 0) (.string ⟨#[]⟩) (.slice none 0 0) (.slice none 0 0) (.slice none 0 0))
    clear hw HALL hx hy gx gy
    go_wp2
    refine bodyPost_ret (v := .tuple #[.agg #[.int .i64 0, .int .i64 0, .string ⟨#[]⟩, .slice none 0 0, .slice none 0 0, .slice none 0 0], .int .i64 2]) (by simp [results, Tryz.results67, go_sem, *]) rfl ⟨rfl, ?_⟩
    exact HB.out
end Go.Proofs.YtmjegeipnaalnaaGreatDoor
