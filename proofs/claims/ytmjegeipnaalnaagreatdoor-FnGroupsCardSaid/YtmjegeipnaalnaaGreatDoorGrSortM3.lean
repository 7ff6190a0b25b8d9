/- A merge in place, walked. The stable sort over a row: blocks of twenty, and their merges: the walk. -/
import Derived.Test.YtmjegeipnaalnaaGreatDoorGrSymT
import Derived.Deep.DeepCutAuto

/- A merge in place, walked. -/
namespace Go.Proofs.YtmjegeipnaalnaaGreatDoor
open Go.RowKit Go.Sort
variable {α : Type} [Inhabited α] {g : Nat} {lb : Array Value} {sf : Nat} {sb : Array Value} {n blk : Nat} {lt : α → α → Bool} {Row : Array α → World → Prop}

set_option maxHeartbeats 4000000 in
set_option maxRecDepth 100000 in
theorem merge_lo (hs : Srt g lb sf sb n blk lt Row) (f a m b : Nat) (d : Array α) (w : World) (hR : Row d w) (ha : a + 1 < m) (hm : m + 1 < b) (hb : b ≤ n) (hn : n < 4611686018427387904)
    (ih : ∀ a m b d w, Row d w → a < m → m < b → b ≤ n → b - a ≤ f → Calls Tryz.prog 306 #[.agg #[.func (.func g) #[] lb, .func (.func sf) #[] sb], .int .i64 a, .int .i64 m, .int .i64 b] w fun e w' =>
      e = .returned (.tuple #[]) ∧ Row (symF lt f a m b d) w' ∧ Moves blk w w') (hf : b - a ≤ f + 1) (hmid : (a + b) / 2 < m) :
    Calls Tryz.prog 306 #[.agg #[.func (.func g) #[] lb, .func (.func sf) #[] sb], .int .i64 a, .int .i64 m, .int .i64 b] w fun e w' =>
      e = .returned (.tuple #[]) ∧ Row (symF lt (f + 1) a m b d) w' ∧ Moves blk w w' := by
  have hlow := hs.low d w hR
  have eg := hs.enters
  have hR1 := hs.grow d w _ hR ((Below.refl w.heap.size w).alloc (Nat.le_refl _) (.cells #[.func (.func g) #[] lb, .func (.func sf) #[] sb] 273))
  have hbx : (w.alloc (.cells #[.func (.func g) #[] lb, .func (.func sf) #[] sb] 273)).heap[w.heap.size]? = some (.cells #[.func (.func g) #[] lb, .func (.func sf) #[] sb] 273) := alloc_here w _
  have e0 : ((m : Int) - a == 1) = false := by simp; omega
  have e1 : ((b : Int) - m == 1) = false := by simp; omega
  have IH := Lib.hid ih
  clear ih
  have hlo : cutLo a m b ≤ cutHi a m b ∧ cutHi a m b ≤ m ∧ a ≤ cutLo a m b ∧ cutHi a m b ≤ (a + b) / 2 + m - 1 ∧ (a + b) / 2 + m < b + cutLo a m b + 1 := by unfold cutLo cutHi; split <;> omega
  have hloI : ((cutLo a m b : Nat) : Int) = ((a : Int) + b) / 2 + m - b := by unfold cutLo; rw [if_pos hmid]; omega
  have hhiI : ((cutHi a m b : Nat) : Int) = ((a : Int) + b) / 2 := by unfold cutHi; rw [if_pos hmid]; omega
  have hd : decide (((a : Int) + b) / 2 < (m : Int)) = true := by simp; omega
  have HLI := Lib.hid hloI
  have HHI := Lib.hid hhiI
  clear hloI hhiI
  go_enter Tryz.func306, Tryz.ntmps306
  go_wp2
  go_loopw [18, 19] (fun vi vj wr => ∃ (i j : Nat), vi = .int .i64 i ∧ vj = .int .i64 j ∧ cutLo a m b ≤ i ∧ i ≤ j ∧ j ≤ cutHi a m b ∧ Row d wr ∧ halfF (fun c => !lt d[(a + b) / 2 + m - 1 - c]! d[c]!) b i j = halfF (fun c => !lt d[(a + b) / 2 + m - 1 - c]! d[c]!) b (cutLo a m b) (cutHi a m b) ∧ Moves blk (w.alloc (.cells #[.func (.func g) #[] lb, .func (.func sf) #[] sb] 273)) wr) (fun vi vj _ => (intOf vj).toNat - (intOf vi).toNat)
  case atStart => exact ⟨cutLo a m b, cutHi a m b, congrArg (Value.int .i64) HLI.out.symm, congrArg (Value.int .i64) HHI.out.symm, Nat.le_refl _, hlo.1, Nat.le_refl _, hR1, rfl, Moves.refl _ _⟩
  case round =>
    obtain ⟨i, j, rfl, rfl, hmi, hij, hjb, hRi, hF, hM⟩ := hrel
    obtain ⟨c0, c1⟩ := box2' ((hM.2 w.heap.size (by omega) (by simp)).trans hbx)
    have HF := Lib.hid hF
    have HM := Lib.hid hM
    clear hF hM hR1 hbx
    by_cases hlt : i < j
    · have hl := hs.less d _ hRi ((a + b) / 2 + m - 1 - (i + j) / 2) ((i + j) / 2) (by omega) (by omega)
      rw [show (((i + j) / 2 : Nat) : Int) = ((i : Int) + j) / 2 by omega, show (((a + b) / 2 + m - 1 - (i + j) / 2 : Nat) : Int) = ((a : Int) + b) / 2 + m - 1 - ((i : Int) + j) / 2 by omega] at hl
      have HL := Lib.hid hl
      clear hl
      cases hlv : lt d[(a + b) / 2 + m - 1 - (i + j) / 2]! d[(i + j) / 2]! with
      | false =>
        rw [hlv] at HL
        go_wp2_with (with_reducible (refine HL.out.mono ?_); rintro e w2 ⟨rfl, hb2⟩)
        go_roundw
        case rel =>
          refine ⟨(i + j) / 2 + 1, j, by go_num, rfl, by omega, by omega, hjb, hs.grow d _ _ hRi hb2, ?_, HM.out.trans (Moves.of_below hb2)⟩
          rw [← HF.out, halfF_fuel _ b (b + 1) i j (by omega) (by omega), halfF_go _ b i j hlt, hlv]; rfl
        case measure => simp [intOf]; omega
      | true =>
        rw [hlv] at HL
        go_wp2_with (with_reducible (refine HL.out.mono ?_); rintro e w2 ⟨rfl, hb2⟩)
        go_roundw
        case rel =>
          refine ⟨i, (i + j) / 2, rfl, by go_num, by omega, by omega, by omega, hs.grow d _ _ hRi hb2, ?_, HM.out.trans (Moves.of_below hb2)⟩
          rw [← HF.out, halfF_fuel _ b (b + 1) i j (by omega) (by omega), halfF_go _ b i j hlt, hlv]; rfl
        case measure => simp [intOf]; omega
    · have hij' : i = j := by omega
      subst hij'
      have hfin : cutAt lt a m b d = i := by
        have := halfF_in (fun c => !lt d[(a + b) / 2 + m - 1 - c]! d[c]!) b i i (Nat.le_refl _)
        unfold cutAt
        rw [← HF.out]; omega
      have HFIN := Lib.hid hfin
      clear hfin
      have HE := Lib.hid (show (((a + b) / 2 + m - i : Nat) : Int) = ((a : Int) + b) / 2 + m - i by omega)
      have HMI := Lib.hid (show (((a + b) / 2 : Nat) : Int) = ((a : Int) + b) / 2 by omega)
      have HH := Lib.hid hlo
      have hi1 : i ≤ m := by omega
      have hi2 : a ≤ i := by omega
      have hi3 : (a + b) / 2 + m < b + i + 1 := by omega
      have hi4 : i ≤ (a + b) / 2 + m - 1 := by omega
      have hi5 : i ≤ (a + b) / 2 := by have := HHI.out; omega
      clear hlo hmi hij hjb
      by_cases tA : i < m
      · skip
        by_cases tB : i < (a + b) / 2
        · skip
          by_cases tC : a < i
          · skip
            by_cases tD : (a + b) / 2 + m - i < b
            · skip
              try (exfalso; omega)
              all_goals
                have hc := rotate_walk hs i m ((a + b) / 2 + m - i) b d _ hRi (by omega) (by omega) (by omega) (by omega) hn
                rw [HE.out] at hc
                have HC1 := Lib.hid hc
                clear hc
                go_wp2_with fail
                refine HC1.out.mono ?_
                rintro e w1 ⟨rfl, hR1, hM1⟩
                obtain ⟨c0, c1⟩ := box2' (((HM.out.trans hM1).2 w.heap.size (by omega) (by simp)).trans (alloc_here w _))
                have hc := IH.out a i ((a + b) / 2) (rotF m b (m - i) (((a + b) / 2 + m - i) - m) d) w1 hR1 (by omega) (by omega) (by omega) (by omega)
                rw [HMI.out] at hc
                have HC2 := Lib.hid hc
                clear hc
                go_wp2_with fail
                refine HC2.out.mono ?_
                rintro e w2 ⟨rfl, hR2, hM2⟩
                obtain ⟨c0, c1⟩ := box2' ((((HM.out.trans hM1).trans hM2).2 w.heap.size (by omega) (by simp)).trans (alloc_here w _))
                have hc := IH.out ((a + b) / 2) ((a + b) / 2 + m - i) b (symF lt f a i ((a + b) / 2) (rotF m b (m - i) (((a + b) / 2 + m - i) - m) d)) w2 hR2 (by omega) (by omega) (by omega) (by omega)
                rw [HE.out, HMI.out] at hc
                have HC3 := Lib.hid hc
                clear hc
                go_wp2_with fail
                refine HC3.out.mono ?_
                rintro e w3 ⟨rfl, hR3, hM3⟩
                obtain ⟨c0, c1⟩ := box2' (((((HM.out.trans hM1).trans hM2).trans hM3).2 w.heap.size (by omega) (by simp)).trans (alloc_here w _))
                go_wp2
                go_end0
                refine ⟨rfl, ?_, (((HM.out.trans hM1).trans hM2).trans hM3).alloc⟩
                unfold symF
                rw [if_neg (by omega), if_neg (by omega)]
                dsimp only
                rw [HFIN.out]
                rw [if_pos (by omega), if_pos (by omega), if_pos (by omega)]
                exact hR3
            · skip
              try (exfalso; omega)
              all_goals
                have hc := rotate_walk hs i m ((a + b) / 2 + m - i) b d _ hRi (by omega) (by omega) (by omega) (by omega) hn
                rw [HE.out] at hc
                have HC1 := Lib.hid hc
                clear hc
                go_wp2_with fail
                refine HC1.out.mono ?_
                rintro e w1 ⟨rfl, hR1, hM1⟩
                obtain ⟨c0, c1⟩ := box2' (((HM.out.trans hM1).2 w.heap.size (by omega) (by simp)).trans (alloc_here w _))
                have hc := IH.out a i ((a + b) / 2) (rotF m b (m - i) (((a + b) / 2 + m - i) - m) d) w1 hR1 (by omega) (by omega) (by omega) (by omega)
                rw [HMI.out] at hc
                have HC2 := Lib.hid hc
                clear hc
                go_wp2_with fail
                refine HC2.out.mono ?_
                rintro e w2 ⟨rfl, hR2, hM2⟩
                obtain ⟨c0, c1⟩ := box2' ((((HM.out.trans hM1).trans hM2).2 w.heap.size (by omega) (by simp)).trans (alloc_here w _))
                go_wp2
                go_end0
                refine ⟨rfl, ?_, ((HM.out.trans hM1).trans hM2).alloc⟩
                unfold symF
                rw [if_neg (by omega), if_neg (by omega)]
                dsimp only
                rw [HFIN.out]
                rw [if_neg (by omega), if_pos (by omega), if_pos (by omega)]
                exact hR2
          · skip
            by_cases tD : (a + b) / 2 + m - i < b
            · skip
              try (exfalso; omega)
              all_goals
                have hc := rotate_walk hs i m ((a + b) / 2 + m - i) b d _ hRi (by omega) (by omega) (by omega) (by omega) hn
                rw [HE.out] at hc
                have HC1 := Lib.hid hc
                clear hc
                go_wp2_with fail
                refine HC1.out.mono ?_
                rintro e w1 ⟨rfl, hR1, hM1⟩
                obtain ⟨c0, c1⟩ := box2' (((HM.out.trans hM1).2 w.heap.size (by omega) (by simp)).trans (alloc_here w _))
                have hc := IH.out ((a + b) / 2) ((a + b) / 2 + m - i) b (rotF m b (m - i) (((a + b) / 2 + m - i) - m) d) w1 hR1 (by omega) (by omega) (by omega) (by omega)
                rw [HE.out, HMI.out] at hc
                have HC3 := Lib.hid hc
                clear hc
                go_wp2_with fail
                refine HC3.out.mono ?_
                rintro e w3 ⟨rfl, hR3, hM3⟩
                obtain ⟨c0, c1⟩ := box2' ((((HM.out.trans hM1).trans hM3).2 w.heap.size (by omega) (by simp)).trans (alloc_here w _))
                go_wp2
                go_end0
                refine ⟨rfl, ?_, ((HM.out.trans hM1).trans hM3).alloc⟩
                unfold symF
                rw [if_neg (by omega), if_neg (by omega)]
                dsimp only
                rw [HFIN.out]
                rw [if_pos (by omega), if_neg (by omega), if_pos (by omega)]
                exact hR3
            · skip
              try (exfalso; omega)
              all_goals
                have hc := rotate_walk hs i m ((a + b) / 2 + m - i) b d _ hRi (by omega) (by omega) (by omega) (by omega) hn
                rw [HE.out] at hc
                have HC1 := Lib.hid hc
                clear hc
                go_wp2_with fail
                refine HC1.out.mono ?_
                rintro e w1 ⟨rfl, hR1, hM1⟩
                obtain ⟨c0, c1⟩ := box2' (((HM.out.trans hM1).2 w.heap.size (by omega) (by simp)).trans (alloc_here w _))
                go_wp2
                go_end0
                refine ⟨rfl, ?_, (HM.out.trans hM1).alloc⟩
                unfold symF
                rw [if_neg (by omega), if_neg (by omega)]
                dsimp only
                rw [HFIN.out]
                rw [if_neg (by omega), if_neg (by omega), if_pos (by omega)]
                exact hR1
        · skip
          by_cases tC : a < i
          · skip
            by_cases tD : (a + b) / 2 + m - i < b
            · skip
              try (exfalso; omega)
              all_goals
                have hc := IH.out ((a + b) / 2) ((a + b) / 2 + m - i) b d _ hRi (by omega) (by omega) (by omega) (by omega)
                rw [HE.out, HMI.out] at hc
                have HC3 := Lib.hid hc
                clear hc
                go_wp2_with fail
                refine HC3.out.mono ?_
                rintro e w3 ⟨rfl, hR3, hM3⟩
                obtain ⟨c0, c1⟩ := box2' (((HM.out.trans hM3).2 w.heap.size (by omega) (by simp)).trans (alloc_here w _))
                go_wp2
                go_end0
                refine ⟨rfl, ?_, (HM.out.trans hM3).alloc⟩
                unfold symF
                rw [if_neg (by omega), if_neg (by omega)]
                dsimp only
                rw [HFIN.out]
                rw [if_pos (by omega), if_neg (by omega), if_neg (by omega)]
                exact hR3
            · skip
              try (exfalso; omega)
              all_goals
                go_wp2
                go_end0
                refine ⟨rfl, ?_, HM.out.alloc⟩
                unfold symF
                rw [if_neg (by omega), if_neg (by omega)]
                dsimp only
                rw [HFIN.out]
                rw [if_neg (by omega), if_neg (by omega), if_neg (by omega)]
                exact hRi
          · skip
            by_cases tD : (a + b) / 2 + m - i < b
            · skip
              try (exfalso; omega)
              all_goals
                have hc := IH.out ((a + b) / 2) ((a + b) / 2 + m - i) b d _ hRi (by omega) (by omega) (by omega) (by omega)
                rw [HE.out, HMI.out] at hc
                have HC3 := Lib.hid hc
                clear hc
                go_wp2_with fail
                refine HC3.out.mono ?_
                rintro e w3 ⟨rfl, hR3, hM3⟩
                obtain ⟨c0, c1⟩ := box2' (((HM.out.trans hM3).2 w.heap.size (by omega) (by simp)).trans (alloc_here w _))
                go_wp2
                go_end0
                refine ⟨rfl, ?_, (HM.out.trans hM3).alloc⟩
                unfold symF
                rw [if_neg (by omega), if_neg (by omega)]
                dsimp only
                rw [HFIN.out]
                rw [if_pos (by omega), if_neg (by omega), if_neg (by omega)]
                exact hR3
            · skip
              try (exfalso; omega)
              all_goals
                go_wp2
                go_end0
                refine ⟨rfl, ?_, HM.out.alloc⟩
                unfold symF
                rw [if_neg (by omega), if_neg (by omega)]
                dsimp only
                rw [HFIN.out]
                rw [if_neg (by omega), if_neg (by omega), if_neg (by omega)]
                exact hRi
      · skip
        by_cases tB : i < (a + b) / 2
        · skip
          by_cases tC : a < i
          · skip
            try (exfalso; omega)
            all_goals
              have hc := IH.out a i ((a + b) / 2) d _ hRi (by omega) (by omega) (by omega) (by omega)
              rw [HMI.out] at hc
              have HC2 := Lib.hid hc
              clear hc
              go_wp2_with fail
              refine HC2.out.mono ?_
              rintro e w2 ⟨rfl, hR2, hM2⟩
              obtain ⟨c0, c1⟩ := box2' (((HM.out.trans hM2).2 w.heap.size (by omega) (by simp)).trans (alloc_here w _))
              go_wp2
              go_end0
              refine ⟨rfl, ?_, (HM.out.trans hM2).alloc⟩
              unfold symF
              rw [if_neg (by omega), if_neg (by omega)]
              dsimp only
              rw [HFIN.out]
              rw [if_neg (by omega), if_pos (by omega), if_neg (by omega)]
              exact hR2
          · skip
            try (exfalso; omega)
            all_goals
              go_wp2
              go_end0
              refine ⟨rfl, ?_, HM.out.alloc⟩
              unfold symF
              rw [if_neg (by omega), if_neg (by omega)]
              dsimp only
              rw [HFIN.out]
              rw [if_neg (by omega), if_neg (by omega), if_neg (by omega)]
              exact hRi
        · skip
          by_cases tC : a < i
          · skip
            try (exfalso; omega)
            all_goals
              go_wp2
              go_end0
              refine ⟨rfl, ?_, HM.out.alloc⟩
              unfold symF
              rw [if_neg (by omega), if_neg (by omega)]
              dsimp only
              rw [HFIN.out]
              rw [if_neg (by omega), if_neg (by omega), if_neg (by omega)]
              exact hRi
          · skip
            try (exfalso; omega)
            all_goals
              go_wp2
              go_end0
              refine ⟨rfl, ?_, HM.out.alloc⟩
              unfold symF
              rw [if_neg (by omega), if_neg (by omega)]
              dsimp only
              rw [HFIN.out]
              rw [if_neg (by omega), if_neg (by omega), if_neg (by omega)]
              exact hRi

set_option maxHeartbeats 4000000 in
set_option maxRecDepth 100000 in
theorem merge_hi (hs : Srt g lb sf sb n blk lt Row) (f a m b : Nat) (d : Array α) (w : World) (hR : Row d w) (ha : a + 1 < m) (hm : m + 1 < b) (hb : b ≤ n) (hn : n < 4611686018427387904)
    (ih : ∀ a m b d w, Row d w → a < m → m < b → b ≤ n → b - a ≤ f → Calls Tryz.prog 306 #[.agg #[.func (.func g) #[] lb, .func (.func sf) #[] sb], .int .i64 a, .int .i64 m, .int .i64 b] w fun e w' =>
      e = .returned (.tuple #[]) ∧ Row (symF lt f a m b d) w' ∧ Moves blk w w') (hf : b - a ≤ f + 1) (hmid : ¬ (a + b) / 2 < m) :
    Calls Tryz.prog 306 #[.agg #[.func (.func g) #[] lb, .func (.func sf) #[] sb], .int .i64 a, .int .i64 m, .int .i64 b] w fun e w' =>
      e = .returned (.tuple #[]) ∧ Row (symF lt (f + 1) a m b d) w' ∧ Moves blk w w' := by
  have hlow := hs.low d w hR
  have eg := hs.enters
  have hR1 := hs.grow d w _ hR ((Below.refl w.heap.size w).alloc (Nat.le_refl _) (.cells #[.func (.func g) #[] lb, .func (.func sf) #[] sb] 273))
  have hbx : (w.alloc (.cells #[.func (.func g) #[] lb, .func (.func sf) #[] sb] 273)).heap[w.heap.size]? = some (.cells #[.func (.func g) #[] lb, .func (.func sf) #[] sb] 273) := alloc_here w _
  have e0 : ((m : Int) - a == 1) = false := by simp; omega
  have e1 : ((b : Int) - m == 1) = false := by simp; omega
  have IH := Lib.hid ih
  clear ih
  have hlo : cutLo a m b ≤ cutHi a m b ∧ cutHi a m b ≤ m ∧ a ≤ cutLo a m b ∧ cutHi a m b ≤ (a + b) / 2 + m - 1 ∧ (a + b) / 2 + m < b + cutLo a m b + 1 := by unfold cutLo cutHi; split <;> omega
  have hloI : ((cutLo a m b : Nat) : Int) = a := by unfold cutLo; rw [if_neg hmid]
  have hhiI : ((cutHi a m b : Nat) : Int) = m := by unfold cutHi; rw [if_neg hmid]
  have hd : decide (((a : Int) + b) / 2 < (m : Int)) = false := by simp; omega
  have HLI := Lib.hid hloI
  have HHI := Lib.hid hhiI
  clear hloI hhiI
  go_enter Tryz.func306, Tryz.ntmps306
  go_wp2
  go_loopw [18, 19] (fun vi vj wr => ∃ (i j : Nat), vi = .int .i64 i ∧ vj = .int .i64 j ∧ cutLo a m b ≤ i ∧ i ≤ j ∧ j ≤ cutHi a m b ∧ Row d wr ∧ halfF (fun c => !lt d[(a + b) / 2 + m - 1 - c]! d[c]!) b i j = halfF (fun c => !lt d[(a + b) / 2 + m - 1 - c]! d[c]!) b (cutLo a m b) (cutHi a m b) ∧ Moves blk (w.alloc (.cells #[.func (.func g) #[] lb, .func (.func sf) #[] sb] 273)) wr) (fun vi vj _ => (intOf vj).toNat - (intOf vi).toNat)
  case atStart => exact ⟨cutLo a m b, cutHi a m b, congrArg (Value.int .i64) HLI.out.symm, congrArg (Value.int .i64) HHI.out.symm, Nat.le_refl _, hlo.1, Nat.le_refl _, hR1, rfl, Moves.refl _ _⟩
  case round =>
    obtain ⟨i, j, rfl, rfl, hmi, hij, hjb, hRi, hF, hM⟩ := hrel
    obtain ⟨c0, c1⟩ := box2' ((hM.2 w.heap.size (by omega) (by simp)).trans hbx)
    have HF := Lib.hid hF
    have HM := Lib.hid hM
    clear hF hM hR1 hbx
    by_cases hlt : i < j
    · have hl := hs.less d _ hRi ((a + b) / 2 + m - 1 - (i + j) / 2) ((i + j) / 2) (by omega) (by omega)
      rw [show (((i + j) / 2 : Nat) : Int) = ((i : Int) + j) / 2 by omega, show (((a + b) / 2 + m - 1 - (i + j) / 2 : Nat) : Int) = ((a : Int) + b) / 2 + m - 1 - ((i : Int) + j) / 2 by omega] at hl
      have HL := Lib.hid hl
      clear hl
      cases hlv : lt d[(a + b) / 2 + m - 1 - (i + j) / 2]! d[(i + j) / 2]! with
      | false =>
        rw [hlv] at HL
        go_wp2_with (with_reducible (refine HL.out.mono ?_); rintro e w2 ⟨rfl, hb2⟩)
        go_roundw
        case rel =>
          refine ⟨(i + j) / 2 + 1, j, by go_num, rfl, by omega, by omega, hjb, hs.grow d _ _ hRi hb2, ?_, HM.out.trans (Moves.of_below hb2)⟩
          rw [← HF.out, halfF_fuel _ b (b + 1) i j (by omega) (by omega), halfF_go _ b i j hlt, hlv]; rfl
        case measure => simp [intOf]; omega
      | true =>
        rw [hlv] at HL
        go_wp2_with (with_reducible (refine HL.out.mono ?_); rintro e w2 ⟨rfl, hb2⟩)
        go_roundw
        case rel =>
          refine ⟨i, (i + j) / 2, rfl, by go_num, by omega, by omega, by omega, hs.grow d _ _ hRi hb2, ?_, HM.out.trans (Moves.of_below hb2)⟩
          rw [← HF.out, halfF_fuel _ b (b + 1) i j (by omega) (by omega), halfF_go _ b i j hlt, hlv]; rfl
        case measure => simp [intOf]; omega
    · have hij' : i = j := by omega
      subst hij'
      have hfin : cutAt lt a m b d = i := by
        have := halfF_in (fun c => !lt d[(a + b) / 2 + m - 1 - c]! d[c]!) b i i (Nat.le_refl _)
        unfold cutAt
        rw [← HF.out]; omega
      have HFIN := Lib.hid hfin
      clear hfin
      have HE := Lib.hid (show (((a + b) / 2 + m - i : Nat) : Int) = ((a : Int) + b) / 2 + m - i by omega)
      have HMI := Lib.hid (show (((a + b) / 2 : Nat) : Int) = ((a : Int) + b) / 2 by omega)
      have HH := Lib.hid hlo
      have hi1 : i ≤ m := by omega
      have hi2 : a ≤ i := by omega
      have hi3 : (a + b) / 2 + m < b + i + 1 := by omega
      have hi4 : i ≤ (a + b) / 2 + m - 1 := by omega
      have hi5 : m ≤ (a + b) / 2 := by omega
      clear hlo hmi hij hjb
      by_cases tA : i < m
      · skip
        by_cases tB : i < (a + b) / 2
        · skip
          by_cases tC : a < i
          · skip
            by_cases tD : (a + b) / 2 + m - i < b
            · skip
              try (exfalso; omega)
              all_goals
                have hc := rotate_walk hs i m ((a + b) / 2 + m - i) b d _ hRi (by omega) (by omega) (by omega) (by omega) hn
                rw [HE.out] at hc
                have HC1 := Lib.hid hc
                clear hc
                go_wp2_with fail
                refine HC1.out.mono ?_
                rintro e w1 ⟨rfl, hR1, hM1⟩
                obtain ⟨c0, c1⟩ := box2' (((HM.out.trans hM1).2 w.heap.size (by omega) (by simp)).trans (alloc_here w _))
                have hc := IH.out a i ((a + b) / 2) (rotF m b (m - i) (((a + b) / 2 + m - i) - m) d) w1 hR1 (by omega) (by omega) (by omega) (by omega)
                rw [HMI.out] at hc
                have HC2 := Lib.hid hc
                clear hc
                go_wp2_with fail
                refine HC2.out.mono ?_
                rintro e w2 ⟨rfl, hR2, hM2⟩
                obtain ⟨c0, c1⟩ := box2' ((((HM.out.trans hM1).trans hM2).2 w.heap.size (by omega) (by simp)).trans (alloc_here w _))
                have hc := IH.out ((a + b) / 2) ((a + b) / 2 + m - i) b (symF lt f a i ((a + b) / 2) (rotF m b (m - i) (((a + b) / 2 + m - i) - m) d)) w2 hR2 (by omega) (by omega) (by omega) (by omega)
                rw [HE.out, HMI.out] at hc
                have HC3 := Lib.hid hc
                clear hc
                go_wp2_with fail
                refine HC3.out.mono ?_
                rintro e w3 ⟨rfl, hR3, hM3⟩
                obtain ⟨c0, c1⟩ := box2' (((((HM.out.trans hM1).trans hM2).trans hM3).2 w.heap.size (by omega) (by simp)).trans (alloc_here w _))
                go_wp2
                go_end0
                refine ⟨rfl, ?_, (((HM.out.trans hM1).trans hM2).trans hM3).alloc⟩
                unfold symF
                rw [if_neg (by omega), if_neg (by omega)]
                dsimp only
                rw [HFIN.out]
                rw [if_pos (by omega), if_pos (by omega), if_pos (by omega)]
                exact hR3
            · skip
              try (exfalso; omega)
              all_goals
                have hc := rotate_walk hs i m ((a + b) / 2 + m - i) b d _ hRi (by omega) (by omega) (by omega) (by omega) hn
                rw [HE.out] at hc
                have HC1 := Lib.hid hc
                clear hc
                go_wp2_with fail
                refine HC1.out.mono ?_
                rintro e w1 ⟨rfl, hR1, hM1⟩
                obtain ⟨c0, c1⟩ := box2' (((HM.out.trans hM1).2 w.heap.size (by omega) (by simp)).trans (alloc_here w _))
                have hc := IH.out a i ((a + b) / 2) (rotF m b (m - i) (((a + b) / 2 + m - i) - m) d) w1 hR1 (by omega) (by omega) (by omega) (by omega)
                rw [HMI.out] at hc
                have HC2 := Lib.hid hc
                clear hc
                go_wp2_with fail
                refine HC2.out.mono ?_
                rintro e w2 ⟨rfl, hR2, hM2⟩
                obtain ⟨c0, c1⟩ := box2' ((((HM.out.trans hM1).trans hM2).2 w.heap.size (by omega) (by simp)).trans (alloc_here w _))
                go_wp2
                go_end0
                refine ⟨rfl, ?_, ((HM.out.trans hM1).trans hM2).alloc⟩
                unfold symF
                rw [if_neg (by omega), if_neg (by omega)]
                dsimp only
                rw [HFIN.out]
                rw [if_neg (by omega), if_pos (by omega), if_pos (by omega)]
                exact hR2
          · skip
            by_cases tD : (a + b) / 2 + m - i < b
            · skip
              try (exfalso; omega)
              all_goals
                have hc := rotate_walk hs i m ((a + b) / 2 + m - i) b d _ hRi (by omega) (by omega) (by omega) (by omega) hn
                rw [HE.out] at hc
                have HC1 := Lib.hid hc
                clear hc
                go_wp2_with fail
                refine HC1.out.mono ?_
                rintro e w1 ⟨rfl, hR1, hM1⟩
                obtain ⟨c0, c1⟩ := box2' (((HM.out.trans hM1).2 w.heap.size (by omega) (by simp)).trans (alloc_here w _))
                have hc := IH.out ((a + b) / 2) ((a + b) / 2 + m - i) b (rotF m b (m - i) (((a + b) / 2 + m - i) - m) d) w1 hR1 (by omega) (by omega) (by omega) (by omega)
                rw [HE.out, HMI.out] at hc
                have HC3 := Lib.hid hc
                clear hc
                go_wp2_with fail
                refine HC3.out.mono ?_
                rintro e w3 ⟨rfl, hR3, hM3⟩
                obtain ⟨c0, c1⟩ := box2' ((((HM.out.trans hM1).trans hM3).2 w.heap.size (by omega) (by simp)).trans (alloc_here w _))
                go_wp2
                go_end0
                refine ⟨rfl, ?_, ((HM.out.trans hM1).trans hM3).alloc⟩
                unfold symF
                rw [if_neg (by omega), if_neg (by omega)]
                dsimp only
                rw [HFIN.out]
                rw [if_pos (by omega), if_neg (by omega), if_pos (by omega)]
                exact hR3
            · skip
              try (exfalso; omega)
              all_goals
                have hc := rotate_walk hs i m ((a + b) / 2 + m - i) b d _ hRi (by omega) (by omega) (by omega) (by omega) hn
                rw [HE.out] at hc
                have HC1 := Lib.hid hc
                clear hc
                go_wp2_with fail
                refine HC1.out.mono ?_
                rintro e w1 ⟨rfl, hR1, hM1⟩
                obtain ⟨c0, c1⟩ := box2' (((HM.out.trans hM1).2 w.heap.size (by omega) (by simp)).trans (alloc_here w _))
                go_wp2
                go_end0
                refine ⟨rfl, ?_, (HM.out.trans hM1).alloc⟩
                unfold symF
                rw [if_neg (by omega), if_neg (by omega)]
                dsimp only
                rw [HFIN.out]
                rw [if_neg (by omega), if_neg (by omega), if_pos (by omega)]
                exact hR1
        · skip
          by_cases tC : a < i
          · skip
            by_cases tD : (a + b) / 2 + m - i < b
            · skip
              try (exfalso; omega)
              all_goals
                have hc := IH.out ((a + b) / 2) ((a + b) / 2 + m - i) b d _ hRi (by omega) (by omega) (by omega) (by omega)
                rw [HE.out, HMI.out] at hc
                have HC3 := Lib.hid hc
                clear hc
                go_wp2_with fail
                refine HC3.out.mono ?_
                rintro e w3 ⟨rfl, hR3, hM3⟩
                obtain ⟨c0, c1⟩ := box2' (((HM.out.trans hM3).2 w.heap.size (by omega) (by simp)).trans (alloc_here w _))
                go_wp2
                go_end0
                refine ⟨rfl, ?_, (HM.out.trans hM3).alloc⟩
                unfold symF
                rw [if_neg (by omega), if_neg (by omega)]
                dsimp only
                rw [HFIN.out]
                rw [if_pos (by omega), if_neg (by omega), if_neg (by omega)]
                exact hR3
            · skip
              try (exfalso; omega)
              all_goals
                go_wp2
                go_end0
                refine ⟨rfl, ?_, HM.out.alloc⟩
                unfold symF
                rw [if_neg (by omega), if_neg (by omega)]
                dsimp only
                rw [HFIN.out]
                rw [if_neg (by omega), if_neg (by omega), if_neg (by omega)]
                exact hRi
          · skip
            by_cases tD : (a + b) / 2 + m - i < b
            · skip
              try (exfalso; omega)
              all_goals
                have hc := IH.out ((a + b) / 2) ((a + b) / 2 + m - i) b d _ hRi (by omega) (by omega) (by omega) (by omega)
                rw [HE.out, HMI.out] at hc
                have HC3 := Lib.hid hc
                clear hc
                go_wp2_with fail
                refine HC3.out.mono ?_
                rintro e w3 ⟨rfl, hR3, hM3⟩
                obtain ⟨c0, c1⟩ := box2' (((HM.out.trans hM3).2 w.heap.size (by omega) (by simp)).trans (alloc_here w _))
                go_wp2
                go_end0
                refine ⟨rfl, ?_, (HM.out.trans hM3).alloc⟩
                unfold symF
                rw [if_neg (by omega), if_neg (by omega)]
                dsimp only
                rw [HFIN.out]
                rw [if_pos (by omega), if_neg (by omega), if_neg (by omega)]
                exact hR3
            · skip
              try (exfalso; omega)
              all_goals
                go_wp2
                go_end0
                refine ⟨rfl, ?_, HM.out.alloc⟩
                unfold symF
                rw [if_neg (by omega), if_neg (by omega)]
                dsimp only
                rw [HFIN.out]
                rw [if_neg (by omega), if_neg (by omega), if_neg (by omega)]
                exact hRi
      · skip
        by_cases tB : i < (a + b) / 2
        · skip
          by_cases tC : a < i
          · skip
            try (exfalso; omega)
            all_goals
              have hc := IH.out a i ((a + b) / 2) d _ hRi (by omega) (by omega) (by omega) (by omega)
              rw [HMI.out] at hc
              have HC2 := Lib.hid hc
              clear hc
              go_wp2_with fail
              refine HC2.out.mono ?_
              rintro e w2 ⟨rfl, hR2, hM2⟩
              obtain ⟨c0, c1⟩ := box2' (((HM.out.trans hM2).2 w.heap.size (by omega) (by simp)).trans (alloc_here w _))
              go_wp2
              go_end0
              refine ⟨rfl, ?_, (HM.out.trans hM2).alloc⟩
              unfold symF
              rw [if_neg (by omega), if_neg (by omega)]
              dsimp only
              rw [HFIN.out]
              rw [if_neg (by omega), if_pos (by omega), if_neg (by omega)]
              exact hR2
          · skip
            try (exfalso; omega)
            all_goals
              go_wp2
              go_end0
              refine ⟨rfl, ?_, HM.out.alloc⟩
              unfold symF
              rw [if_neg (by omega), if_neg (by omega)]
              dsimp only
              rw [HFIN.out]
              rw [if_neg (by omega), if_neg (by omega), if_neg (by omega)]
              exact hRi
        · skip
          by_cases tC : a < i
          · skip
            try (exfalso; omega)
            all_goals
              go_wp2
              go_end0
              refine ⟨rfl, ?_, HM.out.alloc⟩
              unfold symF
              rw [if_neg (by omega), if_neg (by omega)]
              dsimp only
              rw [HFIN.out]
              rw [if_neg (by omega), if_neg (by omega), if_neg (by omega)]
              exact hRi
          · skip
            try (exfalso; omega)
            all_goals
              go_wp2
              go_end0
              refine ⟨rfl, ?_, HM.out.alloc⟩
              unfold symF
              rw [if_neg (by omega), if_neg (by omega)]
              dsimp only
              rw [HFIN.out]
              rw [if_neg (by omega), if_neg (by omega), if_neg (by omega)]
              exact hRi


theorem merge_walk (hs : Srt g lb sf sb n blk lt Row) (hn : n < 4611686018427387904) : ∀ (f a m b : Nat) (d : Array α) (w : World), Row d w → a < m → m < b → b ≤ n → b - a ≤ f →
    Calls Tryz.prog 306 #[.agg #[.func (.func g) #[] lb, .func (.func sf) #[] sb], .int .i64 a, .int .i64 m, .int .i64 b] w fun e w' =>
      e = .returned (.tuple #[]) ∧ Row (symF lt f a m b d) w' ∧ Moves blk w w'
  | 0, a, m, b, _, _, _, h1, h2, _, h4 => by omega
  | f + 1, a, m, b, d, w, hR, h1, h2, h3, h4 => by
    by_cases e1 : m = a + 1
    · exact merge_up hs f a m b d w hR h1 h2 h3 hn e1
    · by_cases e2 : b = m + 1
      · exact merge_down hs f a m b d w hR h1 h2 h3 hn e1 e2
      · by_cases hmid : (a + b) / 2 < m
        · exact merge_lo hs f a m b d w hR (by omega) (by omega) h3 hn (fun a m b d w k1 k2 k3 k4 k5 => merge_walk hs hn f a m b d w k1 k2 k3 k4 k5) h4 hmid
        · exact merge_hi hs f a m b d w hR (by omega) (by omega) h3 hn (fun a m b d w k1 k2 k3 k4 k5 => merge_walk hs hn f a m b d w k1 k2 k3 k4 k5) h4 hmid
end Go.Proofs.YtmjegeipnaalnaaGreatDoor

/- The stable sort over a row: blocks of twenty, and their merges: the walk. -/
namespace Go.Proofs.YtmjegeipnaalnaaGreatDoor
open Go.RowKit Go.Sort
variable {α : Type} [Inhabited α] {g : Nat} {lb : Array Value} {sf : Nat} {sb : Array Value} {n blk : Nat} {lt : α → α → Bool} {Row : Array α → World → Prop}

theorem blkF_go (lt : α → α → Bool) (n f a : Nat) (d : Array α) (hf : n ≤ a + f) (h : a + 20 ≤ n) : ∃ f', blkF lt n f a d = blkF lt n f' (a + 20) (Sort.insertionSort lt d a (a + 20)) ∧ n ≤ a + 20 + f' := by
  obtain ⟨f', rfl⟩ : ∃ f', f = f' + 1 := ⟨f - 1, by omega⟩
  refine ⟨f', ?_, by omega⟩
  conv => lhs; unfold blkF
  rw [if_pos h]
theorem blkF_end (lt : α → α → Bool) (n f a : Nat) (d : Array α) (h : ¬ a + 20 ≤ n) : blkF lt n f a d = Sort.insertionSort lt d a n := by
  cases f with
  | zero => rfl
  | succ f => unfold blkF; rw [if_neg h]
theorem rowF_go (lt : α → α → Bool) (n s f a : Nat) (d : Array α) (hf : n ≤ a + f) (h : a + 2 * s ≤ n) (hs : 0 < s) : ∃ f', rowF lt n s f a d = rowF lt n s f' (a + 2 * s) (symF lt n a (a + s) (a + 2 * s) d) ∧ n ≤ a + 2 * s + f' := by
  obtain ⟨f', rfl⟩ : ∃ f', f = f' + 1 := ⟨f - 1, by omega⟩
  refine ⟨f', ?_, by omega⟩
  conv => lhs; unfold rowF
  rw [if_pos h]
theorem rowF_end (lt : α → α → Bool) (n s f a : Nat) (d : Array α) (hf : n ≤ a + f) (h : ¬ a + 2 * s ≤ n) : rowF lt n s f a d = if a + s < n then symF lt n a (a + s) n d else d := by
  cases f with
  | zero => unfold rowF; rw [if_neg (by omega)]
  | succ f => conv => lhs; unfold rowF
              rw [if_neg h]
theorem allF_go (lt : α → α → Bool) (n f s : Nat) (d : Array α) (hf : n ≤ s + f) (h : s < n) (hs : 0 < s) : ∃ f', allF lt n f s d = allF lt n f' (2 * s) (rowF lt n s n 0 d) ∧ n ≤ 2 * s + f' := by
  obtain ⟨f', rfl⟩ : ∃ f', f = f' + 1 := ⟨f - 1, by omega⟩
  refine ⟨f', ?_, by omega⟩
  conv => lhs; unfold allF
  rw [if_pos h]
theorem allF_end (lt : α → α → Bool) (n f s : Nat) (d : Array α) (h : ¬ s < n) : allF lt n f s d = d := by
  cases f with
  | zero => rfl
  | succ f => unfold allF; rw [if_neg h]

set_option maxHeartbeats 4000000 in
set_option maxRecDepth 100000 in
theorem stable_walk (hs : Srt g lb sf sb n blk lt Row) (hn2 : n < 1000000000) (d : Array α) (w : World) (hR : Row d w) :
    Calls Tryz.prog 250 #[.agg #[.func (.func g) #[] lb, .func (.func sf) #[] sb], .int .i64 n] w fun e w' => e = .returned (.tuple #[]) ∧ Row (stableF lt d) w' ∧ Moves blk w w' := by
  have hlow := hs.low d w hR
  have hn : n < 4611686018427387904 := by omega
  have hR1 := hs.grow d w _ hR ((Below.refl w.heap.size w).alloc (Nat.le_refl _) (.cells #[.func (.func g) #[] lb, .func (.func sf) #[] sb] 273))
  have hbx : (w.alloc (.cells #[.func (.func g) #[] lb, .func (.func sf) #[] sb] 273)).heap[w.heap.size]? = some (.cells #[.func (.func g) #[] lb, .func (.func sf) #[] sb] 273) := alloc_here w _
  have HST := Lib.hid (show stableF lt d = allF lt n n 20 (blkF lt n n 0 d) by unfold stableF; rw [hs.size d w hR])
  go_enter Tryz.func250, Tryz.ntmps250
  go_wp2
  go_loopw [5, 6] (fun va vb wr => ∃ (a f : Nat) (di : Array α), va = .int .i64 a ∧ vb = .int .i64 ((a : Int) + 20) ∧ a ≤ n ∧ Row di wr ∧ blkF lt n f a di = blkF lt n n 0 d ∧ n ≤ a + f ∧ Moves blk (w.alloc (.cells #[.func (.func g) #[] lb, .func (.func sf) #[] sb] 273)) wr) (fun va _ _ => n - (intOf va).toNat)
  case atStart => exact ⟨0, n, d, rfl, rfl, by omega, hR1, rfl, by omega, Moves.refl _ _⟩
  case round =>
    obtain ⟨a, f, di, rfl, rfl, ha, hRi, hF, hf, hM⟩ := hrel
    obtain ⟨c0, c1⟩ := box2' ((hM.2 w.heap.size (by omega) (by simp)).trans hbx)
    have HF := Lib.hid hF
    have HM := Lib.hid hM
    have HBX := Lib.hid hbx
    clear hF hM hR1 hbx
    by_cases h1 : a + 20 ≤ n
    · obtain ⟨f', e1, e2⟩ := blkF_go lt n f a di hf h1
      have HE := Lib.hid (e1.symm.trans HF.out)
      clear e1
      have c := insertion_walk hs a (a + 20) di _ hRi (by omega) h1 hn
      rw [show ((a + 20 : Nat) : Int) = (a : Int) + 20 by omega] at c
      have C := Lib.hid c
      clear c
      go_wp2_with fail
      refine C.out.mono ?_
      rintro e w2 ⟨rfl, hR2, hM2⟩
      go_wp2_with fail
      go_roundw
      case rel => exact ⟨a + 20, f', _, congrArg (Value.int .i64) (by omega), congrArg (Value.int .i64) (by omega), h1, hR2, HE.out, e2, HM.out.trans hM2⟩
      case measure => simp [intOf]; omega
    · have HE := Lib.hid (blkF_end lt n f a di h1)
      have C := Lib.hid (insertion_walk hs a n di _ hRi ha (Nat.le_refl _) hn)
      go_wp2_with fail
      refine C.out.mono ?_
      rintro e w2 ⟨rfl, hR2, hM2⟩
      rw [← HE.out, HF.out] at hR2
      have HM2 := Lib.hid (HM.out.trans hM2)
      generalize blkF lt n n 0 d = D at *
      clear c0 c1 hM2 HE HF HM C hRi
      go_wp2_with fail
      go_loopw [4] (fun vs wr => ∃ (s f : Nat) (di : Array α), vs = .int .i64 s ∧ 20 ≤ s ∧ s ≤ 2 * n + 20 ∧ Row di wr ∧ allF lt n f s di = allF lt n n 20 D ∧ n ≤ s + f ∧ Moves blk (w.alloc (.cells #[.func (.func g) #[] lb, .func (.func sf) #[] sb] 273)) wr) (fun vs _ => n - (intOf vs).toNat)
      case atStart => exact ⟨20, n, D, rfl, by omega, by omega, hR2, rfl, by omega, HM2.out⟩
      case round =>
        obtain ⟨s, f, di, rfl, hs20, hsn, hRi, hF, hf, hM⟩ := hrel
        have HF := Lib.hid hF
        have HM := Lib.hid hM
        clear hF hM hR2
        by_cases h2 : s < n
        · obtain ⟨f', e1, e2⟩ := allF_go lt n f s di hf h2 (by omega)
          have HE := Lib.hid (e1.symm.trans HF.out)
          clear e1
          go_wp2_with fail
          go_loopw [5, 6] (fun va vb wq => ∃ (a f2 : Nat) (dj : Array α), va = .int .i64 a ∧ vb = .int .i64 ((a : Int) + 2 * s) ∧ a ≤ n ∧ Row dj wq ∧ rowF lt n s f2 a dj = rowF lt n s n 0 di ∧ n ≤ a + f2 ∧ Moves blk (w.alloc (.cells #[.func (.func g) #[] lb, .func (.func sf) #[] sb] 273)) wq) (fun va _ _ => n - (intOf va).toNat)
          case atStart => exact ⟨0, n, di, rfl, congrArg (Value.int .i64) (by omega), by omega, hRi, rfl, by omega, HM.out⟩
          case round =>
            obtain ⟨a, f2, dj, rfl, rfl, ha, hRj, hG, hf2, hMj⟩ := hrel
            obtain ⟨c0, c1⟩ := box2' ((hMj.2 w.heap.size (by omega) (by simp)).trans HBX.out)
            have HG := Lib.hid hG
            have HMj := Lib.hid hMj
            clear hG hMj
            by_cases h3 : a + 2 * s ≤ n
            · obtain ⟨f3, e3, e4⟩ := rowF_go lt n s f2 a dj hf2 h3 (by omega)
              have HE3 := Lib.hid (e3.symm.trans HG.out)
              clear e3
              have c := merge_walk hs hn n a (a + s) (a + 2 * s) dj _ hRj (by omega) (by omega) h3 (by omega)
              rw [show ((a + s : Nat) : Int) = (a : Int) + s by omega, show ((a + 2 * s : Nat) : Int) = (a : Int) + 2 * s by omega] at c
              have C := Lib.hid c
              clear c
              go_wp2_with fail
              refine C.out.mono ?_
              rintro e w3 ⟨rfl, hR3, hM3⟩
              go_wp2_with fail
              go_roundw
              case rel => exact ⟨a + 2 * s, f3, _, congrArg (Value.int .i64) (by omega), congrArg (Value.int .i64) (by omega), h3, hR3, HE3.out, e4, HMj.out.trans hM3⟩
              case measure => simp [intOf]; omega
            · have HE3 := Lib.hid (rowF_end lt n s f2 a dj hf2 h3)
              by_cases h4 : a + s < n
              · have c := merge_walk hs hn n a (a + s) n dj _ hRj (by omega) (by omega) (Nat.le_refl _) (by omega)
                rw [show ((a + s : Nat) : Int) = (a : Int) + s by omega] at c
                have C := Lib.hid c
                clear c
                go_wp2_with fail
                refine C.out.mono ?_
                rintro e w3 ⟨rfl, hR3, hM3⟩
                go_wp2_with fail
                go_roundw
                case rel =>
                  refine ⟨2 * s, f', _, congrArg (Value.int .i64) (by omega), by omega, by omega, ?_, HE.out, e2, HMj.out.trans hM3⟩
                  rw [← HG.out, HE3.out, if_pos h4]
                  exact hR3
                case measure => simp [intOf]; omega
              · go_wp2_with fail
                go_roundw
                case rel =>
                  refine ⟨2 * s, f', _, congrArg (Value.int .i64) (by omega), by omega, by omega, ?_, HE.out, e2, HMj.out⟩
                  rw [← HG.out, HE3.out, if_neg h4]
                  exact hRj
                case measure => simp [intOf]; omega
        · go_wp2_with fail
          go_end0
          refine ⟨rfl, ?_, HM.out.alloc⟩
          rw [HST.out, ← HF.out, allF_end lt n f s di h2]
          exact hRi
end Go.Proofs.YtmjegeipnaalnaaGreatDoor
