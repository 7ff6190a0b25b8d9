/- The guards of the statements: sizes, right values, integers. -/
import Derived.Test.YtmjegeipnaalnaaGreatDoorFitT
namespace Go.Proofs.YtmjegeipnaalnaaGreatDoor
open Go.RowKit

/-- A bool comes back, whichever, and nothing that was there turns. -/
def SomeBool (w : World) (e : Ending) (w' : World) : Prop := ∃ z : Bool, e = .returned (.bool z) ∧ Below w.heap.size w w'

set_option maxHeartbeats 1000000 in
theorem zzFits2_walk (ks : List ByteArray) (v : Value) (w : World) (hv : SlOf ks.length 16 (SCells w w.heap.size ks) v) :
    Calls Tryz.prog 29 #[v] w fun e w' => ∃ z : Bool, e = .returned (.bool z) ∧ w' = w := by
  obtain ⟨A, c, rfl, h1, h2, h3⟩ := hv
  generalize hn : ks.length = n at h1 h2 h3
  have Hn := Lib.hid hn
  have H3 := Lib.hid h3
  clear hn h3
  go_enter Tryz.func29, Tryz.ntmps29
  go_wp2_with fail
  · rename_i hbig
    go_ret
    exact ⟨_, rfl, rfl⟩
  · go_loopw [10, 4] (fun i _ wr => ∃ j : Nat, j ≤ n ∧ i = .int .i64 j ∧ wr = w) (fun i _ _ => n - (intOf i).toNat)
    case atStart => exact ⟨0, Nat.zero_le _, rfl, rfl⟩
    case round =>
      obtain ⟨j, hj, rfl, rfl⟩ := hrel
      by_cases hjn : j < n
      · obtain ⟨b, o, rfl, hC⟩ : ∃ b o, A = some ⟨b, o, none⟩ ∧ SCells wr wr.heap.size ks b o := by
          rcases H3.out with h0 | h0
          · omega
          · exact h0
        obtain ⟨_, _, hc⟩ := SCells.get ks b o hC j (by rw [Hn.out]; exact hjn)
        go_wp2_with fail
        · go_ret
          exact ⟨_, rfl, rfl⟩
        · go_roundw
          case rel => exact ⟨j + 1, by omega, by go_num, by first | rfl | trivial⟩
          case measure => simp [intOf]; omega
      · go_wp2_with fail
        go_ret
        exact ⟨_, rfl, rfl⟩

set_option maxHeartbeats 1000000 in
theorem zzFits1_walk (v : JV) (x : Value) (w : World) (hv : JVal w w.heap.size v x) :
    Calls Tryz.prog 7 #[x] w (SomeBool w) := by
  cases v with
  | mk k h t l ks vs =>
    obtain ⟨vl, vk, vv, rfl, _, _, ht, ⟨A1, n1, rfl, _, hc1, hJ1⟩, hk, ⟨A3, n3, rfl, _, hc3, hJ3⟩⟩ := hv.laid
    clear hv
    have hB := (Below.refl w.heap.size w).alloc (Nat.le_refl _) (.cells #[.int .i64 k, .int .i64 h, .string t, .slice A1 l.length n1, vk, .slice A3 vs.length n3] 26)
    have hk1 : SlOf ks.length 16 (SCells (w.alloc (.cells #[.int .i64 k, .int .i64 h, .string t, .slice A1 l.length n1, vk, .slice A3 vs.length n3] 26)) (w.alloc (.cells #[.int .i64 k, .int .i64 h, .string t, .slice A1 l.length n1, vk, .slice A3 vs.length n3] 26)).heap.size ks) vk :=
      hk.imp (SCells.below hB (by simp) ks)
    have hz := zzFits2_walk ks vk _ hk1
    have HZ := Lib.hid hz
    have HB := Lib.hid hB
    clear hz hk hk1 hB hJ1 hJ3
    go_enter Tryz.func7, Tryz.ntmps7
    go_wp2_with (go_at_call 29; refine HZ.out.mono ?_; rintro e w1 ⟨z, rfl, rfl⟩)
    all_goals
      go_ret
      exact ⟨_, rfl, HB.out⟩

/-- Whether a value is a right number so small. -/
def numB (v : JV) : Bool := fitB v && (v.kind == 3) && decide (-33554432 ≤ v.half) && decide (v.half ≤ 33554432)
def wholeB (v : JV) : Bool := numB v && (v.half.tmod 2 == 0)

set_option maxHeartbeats 2000000 in
theorem num_walk (v : JV) (x : Value) (w : World) (hv : JVal w w.heap.size v x) (hT : Tabs w) :
    Calls Tryz.prog 48 #[x, .int .i64 16777216] w fun e w' => e = .returned (.bool (numB v)) ∧ Below w.heap.size w w' := by
  cases v with
  | mk k h t l ks vs =>
    obtain ⟨vl, vk, vv, rfl, ⟨hk1, hk2⟩, ⟨hh1, hh2⟩, _⟩ := hv.laid
    obtain ⟨F, hF⟩ : ∃ F, fitB (JV.mk k h t l ks vs) = F := ⟨_, rfl⟩
    have hn : numB (JV.mk k h t l ks vs) = (F && (k == 3) && decide (-33554432 ≤ h) && decide (h ≤ 33554432)) := by
      unfold numB; rw [hF]; rfl
    rw [hn]
    have hB := (Below.refl w.heap.size w).alloc (Nat.le_refl _) (.cells #[.int .i64 k, .int .i64 h, .string t, vl, vk, vv] 26)
    have hX := heap_alloc_new w (.cells #[.int .i64 k, .int .i64 h, .string t, vl, vk, vv] 26)
    have hfit := Fit_walk (JV.mk k h t l ks vs) (.agg #[.int .i64 k, .int .i64 h, .string t, vl, vk, vv]) (w.alloc (.cells #[.int .i64 k, .int .i64 h, .string t, vl, vk, vv] 26)) (hv.below hB (by simp)) (hT.grown (r := none) (by simp) (by simp) (grownBy_below hB none))
    rw [hF] at hfit
    have HF := Lib.hid hfit
    clear hn hF hfit hv hT
    have cs : F = false ∨ (F = true ∧ (k == 3) = false) ∨ (F = true ∧ k = 3 ∧ h < -33554432) ∨ (F = true ∧ k = 3 ∧ 33554432 < h) ∨ (F = true ∧ k = 3 ∧ -33554432 ≤ h ∧ h ≤ 33554432) := by
      cases F
      · simp
      · by_cases hk : k = 3
        · simp [hk]; omega
        · simp [hk]
    rcases cs with hc | ⟨hc, hc2⟩ | ⟨hc, hc2, hc3⟩ | ⟨hc, hc2, hc3⟩ | ⟨hc, hc2, hc3, hc4⟩
    all_goals
      subst hc
      try subst hc2
      go_enter Tryz.func48, Tryz.ntmps48
      go_wp2_with (go_at_call 30; refine HF.out.mono ?_; rintro e w1 ⟨rfl, hb⟩; replace hX := kept_below hb (by simp) hX; replace hB := hB.trans (hb.mono (by simp)); obtain ⟨x0, x1, x2, x3, x4, x5⟩ := box6 hX)
      go_ret
      refine ⟨?_, hB⟩
      first
        | rfl
        | (simp [*]; done)
        | (simp [*]; omega)

set_option maxHeartbeats 2000000 in
theorem whole_walk (v : JV) (x : Value) (w : World) (hv : JVal w w.heap.size v x) (hT : Tabs w) :
    Calls Tryz.prog 18 #[x, .int .i64 16777216] w fun e w' => e = .returned (.bool (wholeB v)) ∧ Below w.heap.size w w' := by
  cases v with
  | mk k h t l ks vs =>
    obtain ⟨vl, vk, vv, rfl, ⟨hk1, hk2⟩, ⟨hh1, hh2⟩, _⟩ := hv.laid
    obtain ⟨F, hF⟩ : ∃ F, numB (JV.mk k h t l ks vs) = F := ⟨_, rfl⟩
    obtain ⟨G, hG⟩ : ∃ G, (h.tmod 2 == 0) = G := ⟨_, rfl⟩
    have hn : wholeB (JV.mk k h t l ks vs) = (F && G) := by
      unfold wholeB; rw [hF, ← hG]; rfl
    rw [hn]
    have hB := (Below.refl w.heap.size w).alloc (Nat.le_refl _) (.cells #[.int .i64 k, .int .i64 h, .string t, vl, vk, vv] 26)
    have hX := heap_alloc_new w (.cells #[.int .i64 k, .int .i64 h, .string t, vl, vk, vv] 26)
    have hnum := num_walk (JV.mk k h t l ks vs) (.agg #[.int .i64 k, .int .i64 h, .string t, vl, vk, vv]) (w.alloc (.cells #[.int .i64 k, .int .i64 h, .string t, vl, vk, vv] 26)) (hv.below hB (by simp)) (hT.grown (r := none) (by simp) (by simp) (grownBy_below hB none))
    rw [hF] at hnum
    have HF := Lib.hid hnum
    clear hn hF hnum hv hT
    cases F
    · clear hG
      go_enter Tryz.func18, Tryz.ntmps18
      go_wp2_with (go_at_call 48; refine HF.out.mono ?_; rintro e w1 ⟨rfl, hb⟩; replace hX := kept_below hb (by simp) hX; replace hB := hB.trans (hb.mono (by simp)); obtain ⟨x0, x1, x2, x3, x4, x5⟩ := box6 hX)
      go_ret
      exact ⟨rfl, hB⟩
    · by_cases h0 : 0 ≤ h
      · have hG2 : (h % 2 == 0) = G := by rw [← hG, Int.tmod_eq_emod_of_nonneg h0]
        go_enter Tryz.func18, Tryz.ntmps18
        go_wp2_with (go_at_call 48; refine HF.out.mono ?_; rintro e w1 ⟨rfl, hb⟩; replace hX := kept_below hb (by simp) hX; replace hB := hB.trans (hb.mono (by simp)); obtain ⟨x0, x1, x2, x3, x4, x5⟩ := box6 hX)
        go_ret
        exact ⟨by simp [*], hB⟩
      · go_enter Tryz.func18, Tryz.ntmps18
        go_wp2_with (go_at_call 48; refine HF.out.mono ?_; rintro e w1 ⟨rfl, hb⟩; replace hX := kept_below hb (by simp) hX; replace hB := hB.trans (hb.mono (by simp)); obtain ⟨x0, x1, x2, x3, x4, x5⟩ := box6 hX)
        go_ret
        exact ⟨by simp [*], hB⟩
end Go.Proofs.YtmjegeipnaalnaaGreatDoor
