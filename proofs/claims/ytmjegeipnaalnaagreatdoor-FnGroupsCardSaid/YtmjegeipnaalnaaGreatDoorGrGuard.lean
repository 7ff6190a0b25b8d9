/- The guards of the statements: sizes, right values, integers. The value of a key of a map that has it: the walk of the specification's look-up (the cells where the value lies are given). -/
import Derived.Test.YtmjegeipnaalnaaGreatDoorGrRep
import Derived.Test.YtmjegeipnaalnaaGreatDoorGrHas
import Derived.Deep.DeepCutAuto

/- The guards of the statements: sizes, right values, integers. -/
namespace Go.Proofs.YtmjegeipnaalnaaGreatDoor
open Go.RowKit

/-- A bool comes back, whichever, and nothing that was there turns. -/
def SomeBool (w : World) (e : Ending) (w' : World) : Prop := ∃ z : Bool, e = .returned (.bool z) ∧ Below w.heap.size w w'

set_option maxHeartbeats 1000000 in
theorem zzFits2_walk (ks : List ByteArray) (v : Value) (w : World) (hv : SlOf ks.length 16 (SCells w w.heap.size ks) v) :
    Calls Tryz.prog 29 #[v] w fun e w' => ∃ z : Bool, e = .returned (.bool z) ∧ w' = w := by
  obtain ⟨A, c, rfl, h1, h2, h3⟩ := hv
  generalize hn : ks.length = n at h1 h2 h3
  have Hn := Lib.hid hn
  have H3 := Lib.hid h3
  clear hn h3
  go_enter Tryz.func29, Tryz.ntmps29
  go_wp2_with fail
  · rename_i hbig
    go_ret
    exact ⟨_, rfl, rfl⟩
  · go_loopw [10, 4] (fun i _ wr => ∃ j : Nat, j ≤ n ∧ i = .int .i64 j ∧ wr = w) (fun i _ _ => n - (intOf i).toNat)
    case atStart => exact ⟨0, Nat.zero_le _, rfl, rfl⟩
    case round =>
      obtain ⟨j, hj, rfl, rfl⟩ := hrel
      by_cases hjn : j < n
      · obtain ⟨b, o, rfl, hC⟩ : ∃ b o, A = some ⟨b, o, none⟩ ∧ SCells wr wr.heap.size ks b o := by
          rcases H3.out with h0 | h0
          · omega
          · exact h0
        obtain ⟨_, _, hc⟩ := SCells.get ks b o hC j (by rw [Hn.out]; exact hjn)
        go_wp2_with fail
        · go_ret
          exact ⟨_, rfl, rfl⟩
        · go_roundw
          case rel => exact ⟨j + 1, by omega, by go_num, by first | rfl | trivial⟩
          case measure => simp [intOf]; omega
      · go_wp2_with fail
        go_ret
        exact ⟨_, rfl, rfl⟩

set_option maxHeartbeats 1000000 in
theorem zzFits1_walk (v : JV) (x : Value) (w : World) (hv : JVal w w.heap.size v x) :
    Calls Tryz.prog 7 #[x] w (SomeBool w) := by
  cases v with
  | mk k h t l ks vs =>
    obtain ⟨vl, vk, vv, rfl, _, _, ht, ⟨A1, n1, rfl, _, hc1, hJ1⟩, hk, ⟨A3, n3, rfl, _, hc3, hJ3⟩⟩ := hv.laid
    clear hv
    have hB := (Below.refl w.heap.size w).alloc (Nat.le_refl _) (.cells #[.int .i64 k, .int .i64 h, .string t, .slice A1 l.length n1, vk, .slice A3 vs.length n3] 26)
    have hk1 : SlOf ks.length 16 (SCells (w.alloc (.cells #[.int .i64 k, .int .i64 h, .string t, .slice A1 l.length n1, vk, .slice A3 vs.length n3] 26)) (w.alloc (.cells #[.int .i64 k, .int .i64 h, .string t, .slice A1 l.length n1, vk, .slice A3 vs.length n3] 26)).heap.size ks) vk :=
      hk.imp (SCells.below hB (by simp) ks)
    have hz := zzFits2_walk ks vk _ hk1
    have HZ := Lib.hid hz
    have HB := Lib.hid hB
    clear hz hk hk1 hB hJ1 hJ3
    go_enter Tryz.func7, Tryz.ntmps7
    go_wp2_with (go_at_call 29; refine HZ.out.mono ?_; rintro e w1 ⟨z, rfl, rfl⟩)
    all_goals
      go_ret
      exact ⟨_, rfl, HB.out⟩

/-- Whether a value is a right number so small. -/
def numB (v : JV) : Bool := fitB v && (v.kind == 3) && decide (-33554432 ≤ v.half) && decide (v.half ≤ 33554432)
def wholeB (v : JV) : Bool := numB v && (v.half.tmod 2 == 0)

set_option maxHeartbeats 2000000 in
theorem num_walk (v : JV) (x : Value) (w : World) (hv : JVal w w.heap.size v x) (hT : Tabs w) :
    Calls Tryz.prog 48 #[x, .int .i64 16777216] w fun e w' => e = .returned (.bool (numB v)) ∧ Below w.heap.size w w' := by
  cases v with
  | mk k h t l ks vs =>
    obtain ⟨vl, vk, vv, rfl, ⟨hk1, hk2⟩, ⟨hh1, hh2⟩, _⟩ := hv.laid
    obtain ⟨F, hF⟩ : ∃ F, fitB (JV.mk k h t l ks vs) = F := ⟨_, rfl⟩
    have hn : numB (JV.mk k h t l ks vs) = (F && (k == 3) && decide (-33554432 ≤ h) && decide (h ≤ 33554432)) := by
      unfold numB; rw [hF]; rfl
    rw [hn]
    have hB := (Below.refl w.heap.size w).alloc (Nat.le_refl _) (.cells #[.int .i64 k, .int .i64 h, .string t, vl, vk, vv] 26)
    have hX := heap_alloc_new w (.cells #[.int .i64 k, .int .i64 h, .string t, vl, vk, vv] 26)
    have hfit := Fit_walk (JV.mk k h t l ks vs) (.agg #[.int .i64 k, .int .i64 h, .string t, vl, vk, vv]) (w.alloc (.cells #[.int .i64 k, .int .i64 h, .string t, vl, vk, vv] 26)) (hv.below hB (by simp)) (hT.grown (r := none) (by simp) (by simp) (grownBy_below hB none))
    rw [hF] at hfit
    have HF := Lib.hid hfit
    clear hn hF hfit hv hT
    have cs : F = false ∨ (F = true ∧ (k == 3) = false) ∨ (F = true ∧ k = 3 ∧ h < -33554432) ∨ (F = true ∧ k = 3 ∧ 33554432 < h) ∨ (F = true ∧ k = 3 ∧ -33554432 ≤ h ∧ h ≤ 33554432) := by
      cases F
      · simp
      · by_cases hk : k = 3
        · simp [hk]; omega
        · simp [hk]
    rcases cs with hc | ⟨hc, hc2⟩ | ⟨hc, hc2, hc3⟩ | ⟨hc, hc2, hc3⟩ | ⟨hc, hc2, hc3, hc4⟩
    all_goals
      subst hc
      try subst hc2
      go_enter Tryz.func48, Tryz.ntmps48
      go_wp2_with (go_at_call 30; refine HF.out.mono ?_; rintro e w1 ⟨rfl, hb⟩; replace hX := kept_below hb (by simp) hX; replace hB := hB.trans (hb.mono (by simp)); obtain ⟨x0, x1, x2, x3, x4, x5⟩ := box6 hX)
      go_ret
      refine ⟨?_, hB⟩
      first
        | rfl
        | (simp [*]; done)
        | (simp [*]; omega)

set_option maxHeartbeats 2000000 in
theorem whole_walk (v : JV) (x : Value) (w : World) (hv : JVal w w.heap.size v x) (hT : Tabs w) :
    Calls Tryz.prog 18 #[x, .int .i64 16777216] w fun e w' => e = .returned (.bool (wholeB v)) ∧ Below w.heap.size w w' := by
  cases v with
  | mk k h t l ks vs =>
    obtain ⟨vl, vk, vv, rfl, ⟨hk1, hk2⟩, ⟨hh1, hh2⟩, _⟩ := hv.laid
    obtain ⟨F, hF⟩ : ∃ F, numB (JV.mk k h t l ks vs) = F := ⟨_, rfl⟩
    obtain ⟨G, hG⟩ : ∃ G, (h.tmod 2 == 0) = G := ⟨_, rfl⟩
    have hn : wholeB (JV.mk k h t l ks vs) = (F && G) := by
      unfold wholeB; rw [hF, ← hG]; rfl
    rw [hn]
    have hB := (Below.refl w.heap.size w).alloc (Nat.le_refl _) (.cells #[.int .i64 k, .int .i64 h, .string t, vl, vk, vv] 26)
    have hX := heap_alloc_new w (.cells #[.int .i64 k, .int .i64 h, .string t, vl, vk, vv] 26)
    have hnum := num_walk (JV.mk k h t l ks vs) (.agg #[.int .i64 k, .int .i64 h, .string t, vl, vk, vv]) (w.alloc (.cells #[.int .i64 k, .int .i64 h, .string t, vl, vk, vv] 26)) (hv.below hB (by simp)) (hT.grown (r := none) (by simp) (by simp) (grownBy_below hB none))
    rw [hF] at hnum
    have HF := Lib.hid hnum
    clear hn hF hnum hv hT
    cases F
    · clear hG
      go_enter Tryz.func18, Tryz.ntmps18
      go_wp2_with (go_at_call 48; refine HF.out.mono ?_; rintro e w1 ⟨rfl, hb⟩; replace hX := kept_below hb (by simp) hX; replace hB := hB.trans (hb.mono (by simp)); obtain ⟨x0, x1, x2, x3, x4, x5⟩ := box6 hX)
      go_ret
      exact ⟨rfl, hB⟩
    · by_cases h0 : 0 ≤ h
      · have hG2 : (h % 2 == 0) = G := by rw [← hG, Int.tmod_eq_emod_of_nonneg h0]
        go_enter Tryz.func18, Tryz.ntmps18
        go_wp2_with (go_at_call 48; refine HF.out.mono ?_; rintro e w1 ⟨rfl, hb⟩; replace hX := kept_below hb (by simp) hX; replace hB := hB.trans (hb.mono (by simp)); obtain ⟨x0, x1, x2, x3, x4, x5⟩ := box6 hX)
        go_ret
        exact ⟨by simp [*], hB⟩
      · go_enter Tryz.func18, Tryz.ntmps18
        go_wp2_with (go_at_call 48; refine HF.out.mono ?_; rintro e w1 ⟨rfl, hb⟩; replace hX := kept_below hb (by simp) hX; replace hB := hB.trans (hb.mono (by simp)); obtain ⟨x0, x1, x2, x3, x4, x5⟩ := box6 hX)
        go_ret
        exact ⟨by simp [*], hB⟩
end Go.Proofs.YtmjegeipnaalnaaGreatDoor

/- The value of a key of a map that has it: the walk of the specification's look-up (the cells where the value lies are given). -/
namespace Go.Proofs.YtmjegeipnaalnaaGreatDoor
open Go.RowKit

theorem JVal.atB {w w' : World} {B : Nat} {v : JV} {x : Value} (h : JVal w B v x) (hb : Below B w w') (hB : B ≤ w'.heap.size) : JVal w' w'.heap.size v x := h.below hb hB
theorem two_new (w : World) (A B : Obj) : ((w.alloc A).alloc B).heap[w.heap.size]? = some A ∧ ((w.alloc A).alloc B).heap[w.heap.size + 1]? = some B := by
  have e1 : (w.alloc A).heap.size = w.heap.size + 1 := by simp
  refine ⟨?_, ?_⟩
  · rw [Below.heap_alloc _ _ _ (by omega)]; exact heap_alloc_new w A
  · rw [← e1]; exact heap_alloc_new _ B

theorem set6 {w : World} {g : Nat} {a0 a1 a2 a3 a4 a5 v0 v1 v2 v3 v4 v5 : Value} {T : TypeId} (h : w.heap[g]? = some (.cells #[a0, a1, a2, a3, a4, a5] T)) :
    ((((((w.setCell ⟨g, 0, none⟩ v0).setCell ⟨g, 1, none⟩ v1).setCell ⟨g, 2, none⟩ v2).setCell ⟨g, 3, none⟩ v3).setCell ⟨g, 4, none⟩ v4).setCell ⟨g, 5, none⟩ v5).heap[g]? = some (.cells #[v0, v1, v2, v3, v4, v5] T (0, 0)) := by
  have h0 : (w.setCell ⟨g, 0, none⟩ v0).heap[g]? = some (.cells #[v0, a1, a2, a3, a4, a5] T (0, 0)) := by rw [heap_setCell_same _ g 0 _ _ v0 h]; rfl
  have h1 : ((w.setCell ⟨g, 0, none⟩ v0).setCell ⟨g, 1, none⟩ v1).heap[g]? = some (.cells #[v0, v1, a2, a3, a4, a5] T (0, 0)) := by rw [heap_setCell_same _ g 1 _ _ v1 h0]; rfl
  have h2 : (((w.setCell ⟨g, 0, none⟩ v0).setCell ⟨g, 1, none⟩ v1).setCell ⟨g, 2, none⟩ v2).heap[g]? = some (.cells #[v0, v1, v2, a3, a4, a5] T (0, 0)) := by rw [heap_setCell_same _ g 2 _ _ v2 h1]; rfl
  have h3 : ((((w.setCell ⟨g, 0, none⟩ v0).setCell ⟨g, 1, none⟩ v1).setCell ⟨g, 2, none⟩ v2).setCell ⟨g, 3, none⟩ v3).heap[g]? = some (.cells #[v0, v1, v2, v3, a4, a5] T (0, 0)) := by rw [heap_setCell_same _ g 3 _ _ v3 h2]; rfl
  have h4 : (((((w.setCell ⟨g, 0, none⟩ v0).setCell ⟨g, 1, none⟩ v1).setCell ⟨g, 2, none⟩ v2).setCell ⟨g, 3, none⟩ v3).setCell ⟨g, 4, none⟩ v4).heap[g]? = some (.cells #[v0, v1, v2, v3, v4, a5] T (0, 0)) := by rw [heap_setCell_same _ g 4 _ _ v4 h3]; rfl
  rw [heap_setCell_same _ g 5 _ _ v5 h4]; rfl

set_option maxRecDepth 100000 in
set_option maxHeartbeats 2000000 in
theorem get_walk (ks : List ByteArray) (x : ByteArray) (c0 c1 c2 c3 : Value) (A : Option Addr) (n m n' m' b2 o2 : Nat) (w : World) (hn : n = ks.length) (hm : n ≤ 9000000000000)
    (hS : n = 0 ∨ ∃ b o, A = some ⟨b, o, none⟩ ∧ SCells w w.heap.size ks b o) (_hm' : n' ≤ 9000000000000) (hat : isAt ks x = true) (i : Nat) (hi : placeN ks x = i) (hin : i < n')
    (k h : Int) (t : ByteArray) (A1 : Option Addr) (l1 m1 : Nat) (A2 : Option Addr) (l2 m2 : Nat) (A3 : Option Addr) (l3 m3 : Nat) (hb2 : b2 < w.heap.size)
    (u0 : w.cell? ⟨b2, o2 + i * 6, none⟩ = some (.int .i64 k)) (u1 : w.cell? ⟨b2, o2 + i * 6 + 1, none⟩ = some (.int .i64 h)) (u2 : w.cell? ⟨b2, o2 + i * 6 + 2, none⟩ = some (.string t))
    (u3 : w.cell? ⟨b2, o2 + i * 6 + 3, none⟩ = some (.slice A1 l1 m1)) (u4 : w.cell? ⟨b2, o2 + i * 6 + 4, none⟩ = some (.slice A2 l2 m2)) (u5 : w.cell? ⟨b2, o2 + i * 6 + 5, none⟩ = some (.slice A3 l3 m3)) :
    Calls Tryz.prog 110 #[.agg #[c0, c1, c2, c3, .slice A n m, .slice (some ⟨b2, o2, none⟩) n' m'], .string x] w fun e w' =>
      e = .returned (.agg #[.int .i64 k, .int .i64 h, .string t, .slice A1 l1 m1, .slice A2 l2 m2, .slice A3 l3 m3]) ∧ Below w.heap.size w w' := by
  have HAT := Lib.hid hat
  clear hat
  have HN := Lib.hid hn
  have HI := Lib.hid hi
  have HS := Lib.hid hS
  clear hS hi hn
  obtain ⟨hX, hR⟩ := two_new w (.cells #[c0, c1, c2, c3, .slice A n m, .slice (some ⟨b2, o2, none⟩) n' m'] 26) (.cells #[.int .i64 0, .int .i64 0, .string ⟨#[]⟩, .slice none 0 0, .slice none 0 0, .slice none 0 0] 26)
  have hB := ((Below.refl w.heap.size w).alloc (Nat.le_refl _) (.cells #[c0, c1, c2, c3, .slice A n m, .slice (some ⟨b2, o2, none⟩) n' m'] 26)).alloc (by simp) (.cells #[.int .i64 0, .int .i64 0, .string ⟨#[]⟩, .slice none 0 0, .slice none 0 0, .slice none 0 0] 26)
  have hsz : w.heap.size + 1 < ((w.alloc (.cells #[c0, c1, c2, c3, .slice A n m, .slice (some ⟨b2, o2, none⟩) n' m'] 26)).alloc (.cells #[.int .i64 0, .int .i64 0, .string ⟨#[]⟩, .slice none 0 0, .slice none 0 0, .slice none 0 0] 26)).heap.size := by simp
  go_enter Tryz.func110, Tryz.ntmps110
  go_upto_region 1 with (fail)
  generalize ((w.alloc (.cells #[c0, c1, c2, c3, .slice A n m, .slice (some ⟨b2, o2, none⟩) n' m'] 26)).alloc (.cells #[.int .i64 0, .int .i64 0, .string ⟨#[]⟩, .slice none 0 0, .slice none 0 0, .slice none 0 0] 26)) = w2 at *
  obtain ⟨x0, x1, x2, x3, x4, x5⟩ := box6 hX
  have hS2 : n = 0 ∨ ∃ b o, A = some ⟨b, o, none⟩ ∧ SCells w2 w2.heap.size ks b o := by
    rcases HS.out with h | ⟨b, o, h, h2⟩
    · exact .inl h
    · exact .inr ⟨b, o, h, SCells.below hB (by omega) ks b o h2⟩
  have c := place_walk ks x c0 c1 c2 c3 (.slice (some ⟨b2, o2, none⟩) n' m') A n m w2 HN.out hm hS2
  rw [HAT.out, HI.out] at c
  have C := Lib.hid c
  clear c hS2
  go_wp2_with fail
  refine C.out.mono ?_
  rintro e w3 ⟨rfl, hb⟩
  replace hX := kept_below hb (by omega) hX
  replace hR := kept_below hb (by omega) hR
  replace hB := hB.trans (hb.mono (by omega))
  have hsz3 : w.heap.size + 1 < w3.heap.size := by have := hb.size; omega
  clear x0 x1 x2 x3 x4 x5
  obtain ⟨x0, x1, x2, x3, x4, x5⟩ := box6 hX
  obtain ⟨f0, f1, f2, f3, f4, f5, f6⟩ := frozen7 hR
  obtain ⟨z0, z1, z2, z3, z4, z5⟩ := box6 hR
  have y0 := (hB.cell (p := ⟨b2, o2 + i * 6, none⟩) hb2).trans u0
  have y1 := (hB.cell (p := ⟨b2, o2 + i * 6 + 1, none⟩) hb2).trans u1
  have y2 := (hB.cell (p := ⟨b2, o2 + i * 6 + 2, none⟩) hb2).trans u2
  have y3 := (hB.cell (p := ⟨b2, o2 + i * 6 + 3, none⟩) hb2).trans u3
  have y4 := (hB.cell (p := ⟨b2, o2 + i * 6 + 4, none⟩) hb2).trans u4
  have y5 := (hB.cell (p := ⟨b2, o2 + i * 6 + 5, none⟩) hb2).trans u5
  clear u0 u1 u2 u3 u4 u5
  have hbel : Below w.heap.size w ((((((w3.setCell ⟨w.heap.size + 1, 0, none⟩ (.int .i64 k)).setCell ⟨w.heap.size + 1, 1, none⟩ (.int .i64 h)).setCell ⟨w.heap.size + 1, 2, none⟩ (.string t)).setCell ⟨w.heap.size + 1, 3, none⟩ (.slice A1 l1 m1)).setCell ⟨w.heap.size + 1, 4, none⟩ (.slice A2 l2 m2)).setCell ⟨w.heap.size + 1, 5, none⟩ (.slice A3 l3 m3)) :=
    ((((((hB.setCell (Nat.le_succ _) _).setCell (Nat.le_succ _) _).setCell (Nat.le_succ _) _).setCell (Nat.le_succ _) _).setCell (Nat.le_succ _) _).setCell (Nat.le_succ _) _)
  have HB := Lib.hid hbel
  clear hbel
  go_wp2
  refine bodyPost_ret (v := .agg #[.int .i64 k, .int .i64 h, .string t, .slice A1 l1 m1, .slice A2 l2 m2, .slice A3 l3 m3]) (by simp [results, Tryz.results110, go_sem, *]) rfl ⟨rfl, HB.out⟩
end Go.Proofs.YtmjegeipnaalnaaGreatDoor
