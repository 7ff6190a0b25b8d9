/- The thin package's containment: a boolean as an answer, held against the reference's. -/
import Derived.Test.YtmjegeipnaalnaaGreatDoorConA
import Derived.Test.YtmjegeipnaalnaaGreatDoorSaid
namespace Go.Proofs.YtmjegeipnaalnaaGreatDoor
open Go.RowKit

/-- A right answer that is its kind alone. -/
def kR (k : Int) : Value := .agg #[.int .i64 k, .int .i64 0, .string ⟨#[]⟩, .slice none 0 0, .slice none 0 0, .slice none 0 0, .int .i64 0]

set_option maxRecDepth 100000 in
set_option maxHeartbeats 1000000 in
theorem fromGo_bool (z : Bool) (w : World) :
    Calls Tryz.prog 83 #[.iface 4 (.bool z)] w fun e w' => e = .returned (.tuple #[kV (truthK z), .bool true]) ∧ Below w.heap.size w w' := by
  have hX := heap_alloc_new w (.cells #[.int .i64 0, .int .i64 0, .string ⟨#[]⟩, .slice none 0 0, .slice none 0 0, .slice none 0 0] 26)
  have hB := (Below.refl w.heap.size w).alloc (Nat.le_refl _) (.cells #[.int .i64 0, .int .i64 0, .string ⟨#[]⟩, .slice none 0 0, .slice none 0 0, .slice none 0 0] 26)
  have hsz : w.heap.size < (w.alloc (.cells #[.int .i64 0, .int .i64 0, .string ⟨#[]⟩, .slice none 0 0, .slice none 0 0, .slice none 0 0] 26)).heap.size := by simp
  unfold kV
  cases z
  · rw [show truthK false = 1 from rfl]
    go_enter Tryz.func83, Tryz.ntmps83
    go_upto_region 1 with (fail)
    generalize w.alloc (.cells #[.int .i64 0, .int .i64 0, .string ⟨#[]⟩, .slice none 0 0, .slice none 0 0, .slice none 0 0] 26) = w1 at *
    obtain ⟨x0, x1, x2, x3, x4, x5⟩ := box6 hX
    obtain ⟨f0, f1, f2, f3, f4, f5, _⟩ := frozen7 hX
    have HB := Lib.hid (below_set6 hB (Nat.le_refl _) (.int .i64 1) (.int .i64 0) (.string ⟨#[]⟩) (.slice none 0 0) (.slice none 0 0) (.slice none 0 0))
    clear hB
    go_wp2
    refine bodyPost_ret (v := .tuple #[.agg #[.int .i64 1, .int .i64 0, .string ⟨#[]⟩, .slice none 0 0, .slice none 0 0, .slice none 0 0], .bool true]) (by simp [results, Tryz.results83, go_sem, *]) rfl ⟨rfl, ?_⟩
    exact HB.out
  · rw [show truthK true = 2 from rfl]
    go_enter Tryz.func83, Tryz.ntmps83
    go_upto_region 1 with (fail)
    generalize w.alloc (.cells #[.int .i64 0, .int .i64 0, .string ⟨#[]⟩, .slice none 0 0, .slice none 0 0, .slice none 0 0] 26) = w1 at *
    obtain ⟨x0, x1, x2, x3, x4, x5⟩ := box6 hX
    obtain ⟨f0, f1, f2, f3, f4, f5, _⟩ := frozen7 hX
    have HB := Lib.hid (below_set6 hB (Nat.le_refl _) (.int .i64 2) (.int .i64 0) (.string ⟨#[]⟩) (.slice none 0 0) (.slice none 0 0) (.slice none 0 0))
    clear hB
    go_wp2
    refine bodyPost_ret (v := .tuple #[.agg #[.int .i64 2, .int .i64 0, .string ⟨#[]⟩, .slice none 0 0, .slice none 0 0, .slice none 0 0], .bool true]) (by simp [results, Tryz.results83, go_sem, *]) rfl ⟨rfl, ?_⟩
    exact HB.out

theorem below_set7 {a w : World} {B g : Nat} (h : Below B a w) (hg : B ≤ g) (v0 v1 v2 v3 v4 v5 v6 : Value) :
    Below B a (((((((w.setCell ⟨g, 0, none⟩ v0).setCell ⟨g, 1, none⟩ v1).setCell ⟨g, 2, none⟩ v2).setCell ⟨g, 3, none⟩ v3).setCell ⟨g, 4, none⟩ v4).setCell ⟨g, 5, none⟩ v5).setCell ⟨g, 6, none⟩ v6) :=
  (below_set6 h hg v0 v1 v2 v3 v4 v5).setCell hg _

set_option maxRecDepth 100000 in
set_option maxHeartbeats 1000000 in
theorem result_bool (z : Bool) (w : World) :
    Calls Tryz.prog 42 #[.iface 4 (.bool z)] w fun e w' => e = .returned (kR (truthK z)) ∧ Below w.heap.size w w' := by
  have hX := heap_alloc_new w (.cells #[.int .i64 0, .int .i64 0, .string ⟨#[]⟩, .slice none 0 0, .slice none 0 0, .slice none 0 0, .int .i64 0] 34)
  have hB := (Below.refl w.heap.size w).alloc (Nat.le_refl _) (.cells #[.int .i64 0, .int .i64 0, .string ⟨#[]⟩, .slice none 0 0, .slice none 0 0, .slice none 0 0, .int .i64 0] 34)
  have HF := Lib.hid (fun W => fromGo_bool z W)
  unfold kR
  generalize truthK z = k at *
  go_enter Tryz.func42, Tryz.ntmps42
  go_wp2_with fail
  refine (HF.out _).mono ?_
  rintro e w2 ⟨rfl, hb⟩
  (unfold kV; have hX2 := kept_below hb (by simp) hX; have hB2 := hB.trans (hb.mono (by simp)); obtain ⟨x0, x1, x2, x3, x4, x5, x6⟩ := box7 hX2; obtain ⟨f0, f1, f2, f3, f4, f5, f6⟩ := frozen7 hX2; have hlt : w.heap.size < w2.heap.size := by have := hb.size; simp at this; omega)
  go_wp2
  refine bodyPost_ret (v := .agg #[.int .i64 k, .int .i64 0, .string ⟨#[]⟩, .slice none 0 0, .slice none 0 0, .slice none 0 0, .int .i64 0]) (by simp [results, Tryz.results42, go_sem, *]) rfl ⟨rfl, ?_⟩
  exact (((((((hB2.setCell (Nat.le_refl _) _).setCell (Nat.le_refl _) _).setCell (Nat.le_refl _) _).setCell (Nat.le_refl _) _).setCell (Nat.le_refl _) _).setCell (Nat.le_refl _) _).setCell (Nat.le_refl _) _).alloc (by simp; omega) _

set_option maxRecDepth 100000 in
set_option maxHeartbeats 1000000 in
theorem told_kind (k : Int) (w : World) (h0 : 0 ≤ k) (h2 : k ≤ 2) :
    Calls Tryz.prog 10 #[kR k, kV k, .int .i64 0] w fun e w' => e = .returned (.bool true) ∧ Below w.heap.size w w' := by
  have C := Lib.hid (fun W => Same_plain k 0 0 (.string ⟨#[]⟩) (.slice none 0 0) (.slice none 0 0) (.slice none 0 0) (.string ⟨#[]⟩) (.slice none 0 0) (.slice none 0 0) (.slice none 0 0) W h0 (by omega) (by decide) (by decide) (by decide) (by decide) (fun _ => ⟨rfl, rfl⟩))
  unfold kR kV
  have hB := ((Below.refl w.heap.size w).alloc (Nat.le_refl _) (.cells #[.int .i64 k, .int .i64 0, .string ⟨#[]⟩, .slice none 0 0, .slice none 0 0, .slice none 0 0, .int .i64 0] 34)).alloc (by simp) (.cells #[.int .i64 k, .int .i64 0, .string ⟨#[]⟩, .slice none 0 0, .slice none 0 0, .slice none 0 0] 26)
  go_enter Tryz.func10, Tryz.ntmps10
  go_wp2_with (go_at_call 40; refine (C.out _).mono ?_; rintro e w1 ⟨rfl, hb⟩)
  go_ret
  exact ⟨by first | rfl | simp, hB.trans (hb.mono (by simp; omega))⟩
end Go.Proofs.YtmjegeipnaalnaaGreatDoor
