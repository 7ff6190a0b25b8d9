/- The value of a key of a map that has it: the walk of the specification's look-up (the cells where the value lies are given). -/
import Derived.Test.YtmjegeipnaalnaaGreatDoorHas
import Derived.Test.YtmjegeipnaalnaaGreatDoorGuard
import Derived.Deep.DeepCutAuto
namespace Go.Proofs.YtmjegeipnaalnaaGreatDoor
open Go.RowKit

theorem JVal.atB {w w' : World} {B : Nat} {v : JV} {x : Value} (h : JVal w B v x) (hb : Below B w w') (hB : B ≤ w'.heap.size) : JVal w' w'.heap.size v x := h.below hb hB
theorem two_new (w : World) (A B : Obj) : ((w.alloc A).alloc B).heap[w.heap.size]? = some A ∧ ((w.alloc A).alloc B).heap[w.heap.size + 1]? = some B := by
  have e1 : (w.alloc A).heap.size = w.heap.size + 1 := by simp
  refine ⟨?_, ?_⟩
  · rw [Below.heap_alloc _ _ _ (by omega)]; exact heap_alloc_new w A
  · rw [← e1]; exact heap_alloc_new _ B

theorem set6 {w : World} {g : Nat} {a0 a1 a2 a3 a4 a5 v0 v1 v2 v3 v4 v5 : Value} {T : TypeId} (h : w.heap[g]? = some (.cells #[a0, a1, a2, a3, a4, a5] T)) :
    ((((((w.setCell ⟨g, 0, none⟩ v0).setCell ⟨g, 1, none⟩ v1).setCell ⟨g, 2, none⟩ v2).setCell ⟨g, 3, none⟩ v3).setCell ⟨g, 4, none⟩ v4).setCell ⟨g, 5, none⟩ v5).heap[g]? = some (.cells #[v0, v1, v2, v3, v4, v5] T (0, 0)) := by
  have h0 : (w.setCell ⟨g, 0, none⟩ v0).heap[g]? = some (.cells #[v0, a1, a2, a3, a4, a5] T (0, 0)) := by rw [heap_setCell_same _ g 0 _ _ v0 h]; rfl
  have h1 : ((w.setCell ⟨g, 0, none⟩ v0).setCell ⟨g, 1, none⟩ v1).heap[g]? = some (.cells #[v0, v1, a2, a3, a4, a5] T (0, 0)) := by rw [heap_setCell_same _ g 1 _ _ v1 h0]; rfl
  have h2 : (((w.setCell ⟨g, 0, none⟩ v0).setCell ⟨g, 1, none⟩ v1).setCell ⟨g, 2, none⟩ v2).heap[g]? = some (.cells #[v0, v1, v2, a3, a4, a5] T (0, 0)) := by rw [heap_setCell_same _ g 2 _ _ v2 h1]; rfl
  have h3 : ((((w.setCell ⟨g, 0, none⟩ v0).setCell ⟨g, 1, none⟩ v1).setCell ⟨g, 2, none⟩ v2).setCell ⟨g, 3, none⟩ v3).heap[g]? = some (.cells #[v0, v1, v2, v3, a4, a5] T (0, 0)) := by rw [heap_setCell_same _ g 3 _ _ v3 h2]; rfl
  have h4 : (((((w.setCell ⟨g, 0, none⟩ v0).setCell ⟨g, 1, none⟩ v1).setCell ⟨g, 2, none⟩ v2).setCell ⟨g, 3, none⟩ v3).setCell ⟨g, 4, none⟩ v4).heap[g]? = some (.cells #[v0, v1, v2, v3, v4, a5] T (0, 0)) := by rw [heap_setCell_same _ g 4 _ _ v4 h3]; rfl
  rw [heap_setCell_same _ g 5 _ _ v5 h4]; rfl

set_option maxRecDepth 100000 in
set_option maxHeartbeats 2000000 in
theorem get_walk (ks : List ByteArray) (x : ByteArray) (c0 c1 c2 c3 : Value) (A : Option Addr) (n m n' m' b2 o2 : Nat) (w : World) (hn : n = ks.length) (hm : n ≤ 9000000000000)
    (hS : n = 0 ∨ ∃ b o, A = some ⟨b, o, none⟩ ∧ SCells w w.heap.size ks b o) (_hm' : n' ≤ 9000000000000) (hat : isAt ks x = true) (i : Nat) (hi : placeN ks x = i) (hin : i < n')
    (k h : Int) (t : ByteArray) (A1 : Option Addr) (l1 m1 : Nat) (A2 : Option Addr) (l2 m2 : Nat) (A3 : Option Addr) (l3 m3 : Nat) (hb2 : b2 < w.heap.size)
    (u0 : w.cell? ⟨b2, o2 + i * 6, none⟩ = some (.int .i64 k)) (u1 : w.cell? ⟨b2, o2 + i * 6 + 1, none⟩ = some (.int .i64 h)) (u2 : w.cell? ⟨b2, o2 + i * 6 + 2, none⟩ = some (.string t))
    (u3 : w.cell? ⟨b2, o2 + i * 6 + 3, none⟩ = some (.slice A1 l1 m1)) (u4 : w.cell? ⟨b2, o2 + i * 6 + 4, none⟩ = some (.slice A2 l2 m2)) (u5 : w.cell? ⟨b2, o2 + i * 6 + 5, none⟩ = some (.slice A3 l3 m3)) :
    Calls Tryz.prog 110 #[.agg #[c0, c1, c2, c3, .slice A n m, .slice (some ⟨b2, o2, none⟩) n' m'], .string x] w fun e w' =>
      e = .returned (.agg #[.int .i64 k, .int .i64 h, .string t, .slice A1 l1 m1, .slice A2 l2 m2, .slice A3 l3 m3]) ∧ Below w.heap.size w w' := by
  have HAT := Lib.hid hat
  clear hat
  have HN := Lib.hid hn
  have HI := Lib.hid hi
  have HS := Lib.hid hS
  clear hS hi hn
  obtain ⟨hX, hR⟩ := two_new w (.cells #[c0, c1, c2, c3, .slice A n m, .slice (some ⟨b2, o2, none⟩) n' m'] 26) (.cells #[.int .i64 0, .int .i64 0, .string ⟨#[]⟩, .slice none 0 0, .slice none 0 0, .slice none 0 0] 26)
  have hB := ((Below.refl w.heap.size w).alloc (Nat.le_refl _) (.cells #[c0, c1, c2, c3, .slice A n m, .slice (some ⟨b2, o2, none⟩) n' m'] 26)).alloc (by simp) (.cells #[.int .i64 0, .int .i64 0, .string ⟨#[]⟩, .slice none 0 0, .slice none 0 0, .slice none 0 0] 26)
  have hsz : w.heap.size + 1 < ((w.alloc (.cells #[c0, c1, c2, c3, .slice A n m, .slice (some ⟨b2, o2, none⟩) n' m'] 26)).alloc (.cells #[.int .i64 0, .int .i64 0, .string ⟨#[]⟩, .slice none 0 0, .slice none 0 0, .slice none 0 0] 26)).heap.size := by simp
  go_enter Tryz.func110, Tryz.ntmps110
  go_upto_region 1 with (fail)
  generalize ((w.alloc (.cells #[c0, c1, c2, c3, .slice A n m, .slice (some ⟨b2, o2, none⟩) n' m'] 26)).alloc (.cells #[.int .i64 0, .int .i64 0, .string ⟨#[]⟩, .slice none 0 0, .slice none 0 0, .slice none 0 0] 26)) = w2 at *
  obtain ⟨x0, x1, x2, x3, x4, x5⟩ := box6 hX
  have hS2 : n = 0 ∨ ∃ b o, A = some ⟨b, o, none⟩ ∧ SCells w2 w2.heap.size ks b o := by
    rcases HS.out with h | ⟨b, o, h, h2⟩
    · exact .inl h
    · exact .inr ⟨b, o, h, SCells.below hB (by omega) ks b o h2⟩
  have c := place_walk ks x c0 c1 c2 c3 (.slice (some ⟨b2, o2, none⟩) n' m') A n m w2 HN.out hm hS2
  rw [HAT.out, HI.out] at c
  have C := Lib.hid c
  clear c hS2
  go_wp2_with fail
  refine C.out.mono ?_
  rintro e w3 ⟨rfl, hb⟩
  replace hX := kept_below hb (by omega) hX
  replace hR := kept_below hb (by omega) hR
  replace hB := hB.trans (hb.mono (by omega))
  have hsz3 : w.heap.size + 1 < w3.heap.size := by have := hb.size; omega
  clear x0 x1 x2 x3 x4 x5
  obtain ⟨x0, x1, x2, x3, x4, x5⟩ := box6 hX
  obtain ⟨f0, f1, f2, f3, f4, f5, f6⟩ := frozen7 hR
  obtain ⟨z0, z1, z2, z3, z4, z5⟩ := box6 hR
  have y0 := (hB.cell (p := ⟨b2, o2 + i * 6, none⟩) hb2).trans u0
  have y1 := (hB.cell (p := ⟨b2, o2 + i * 6 + 1, none⟩) hb2).trans u1
  have y2 := (hB.cell (p := ⟨b2, o2 + i * 6 + 2, none⟩) hb2).trans u2
  have y3 := (hB.cell (p := ⟨b2, o2 + i * 6 + 3, none⟩) hb2).trans u3
  have y4 := (hB.cell (p := ⟨b2, o2 + i * 6 + 4, none⟩) hb2).trans u4
  have y5 := (hB.cell (p := ⟨b2, o2 + i * 6 + 5, none⟩) hb2).trans u5
  clear u0 u1 u2 u3 u4 u5
  have hbel : Below w.heap.size w ((((((w3.setCell ⟨w.heap.size + 1, 0, none⟩ (.int .i64 k)).setCell ⟨w.heap.size + 1, 1, none⟩ (.int .i64 h)).setCell ⟨w.heap.size + 1, 2, none⟩ (.string t)).setCell ⟨w.heap.size + 1, 3, none⟩ (.slice A1 l1 m1)).setCell ⟨w.heap.size + 1, 4, none⟩ (.slice A2 l2 m2)).setCell ⟨w.heap.size + 1, 5, none⟩ (.slice A3 l3 m3)) :=
    ((((((hB.setCell (Nat.le_succ _) _).setCell (Nat.le_succ _) _).setCell (Nat.le_succ _) _).setCell (Nat.le_succ _) _).setCell (Nat.le_succ _) _).setCell (Nat.le_succ _) _)
  have HB := Lib.hid hbel
  clear hbel
  go_wp2
  refine bodyPost_ret (v := .agg #[.int .i64 k, .int .i64 h, .string t, .slice A1 l1 m1, .slice A2 l2 m2, .slice A3 l3 m3]) (by simp [results, Tryz.results110, go_sem, *]) rfl ⟨rfl, HB.out⟩
end Go.Proofs.YtmjegeipnaalnaaGreatDoor
