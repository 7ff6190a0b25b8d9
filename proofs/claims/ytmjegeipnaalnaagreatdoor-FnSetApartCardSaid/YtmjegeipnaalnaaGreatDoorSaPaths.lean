/- Paths held against what the law asks of them: keys and small indices alone; neither the beginning of the other one. -/
import Derived.Test.YtmjegeipnaalnaaGreatDoorSaGetP
import Derived.Test.YtmjegeipnaalnaaGreatDoorSaSameT
import Derived.Test.YtmjegeipnaalnaaGreatDoorSaVague
namespace Go.Proofs.YtmjegeipnaalnaaGreatDoor
open Go.RowKit

theorem rep_mk {w : World} {B : Nat} {k h : Int} {t : ByteArray} {l vs : List JV} {ks : List ByteArray} {d0 d1 d2 d3 d4 d5 : Value} (hr : JRep w B (.mk k h t l ks vs) [d0, d1, d2, d3, d4, d5]) :
    ∃ A1 m1 A2 m2 A3 m3, d0 = .int .i64 k ∧ d1 = .int .i64 h ∧ d2 = .string t ∧ d3 = .slice A1 l.length m1 ∧ d4 = .slice A2 ks.length m2 ∧ d5 = .slice A3 vs.length m3 ∧ I64 k ∧ I64 h := by
  unfold JRep at hr
  obtain ⟨h1, h2, _, vl, vk, vv, e, ⟨A1, m1, rfl, _⟩, ⟨A2, m2, rfl, _⟩, ⟨A3, m3, rfl, _⟩⟩ := hr
  simp only [List.cons.injEq, and_true] at e
  obtain ⟨rfl, rfl, rfl, rfl, rfl, rfl⟩ := e
  exact ⟨_, _, _, _, _, _, rfl, rfl, rfl, rfl, rfl, rfl, h1, h2⟩

set_option maxRecDepth 100000 in
set_option maxHeartbeats 1000000 in
theorem array_walk (A : Option Addr) (n c : Nat) (w : World) :
    Calls Tryz.prog 24 #[.slice A n c] w fun e w' => e = .returned (.agg #[.int .i64 5, .int .i64 0, .string ⟨#[]⟩, .slice A n c, .slice none 0 0, .slice none 0 0]) ∧ Below w.heap.size w w' := by
  have hX := heap_alloc_new w (.cells #[.int .i64 0, .int .i64 0, .string ⟨#[]⟩, .slice none 0 0, .slice none 0 0, .slice none 0 0] 26)
  have hB := (Below.refl w.heap.size w).alloc (Nat.le_refl _) (.cells #[.int .i64 0, .int .i64 0, .string ⟨#[]⟩, .slice none 0 0, .slice none 0 0, .slice none 0 0] 26)
  have hsz : w.heap.size < (w.alloc (.cells #[.int .i64 0, .int .i64 0, .string ⟨#[]⟩, .slice none 0 0, .slice none 0 0, .slice none 0 0] 26)).heap.size := by simp
  go_enter Tryz.func24, Tryz.ntmps24
  go_upto_region 1 with (fail)
  generalize w.alloc (.cells #[.int .i64 0, .int .i64 0, .string ⟨#[]⟩, .slice none 0 0, .slice none 0 0, .slice none 0 0] 26) = w1 at *
  obtain ⟨x0, x1, x2, x3, x4, x5⟩ := box6 hX
  obtain ⟨f0, f1, f2, f3, f4, f5, _⟩ := frozen7 hX
  have HB := Lib.hid (below_set6 hB (Nat.le_refl _) (.int .i64 5) (.int .i64 0) (.string ⟨#[]⟩) (.slice A n c) (.slice none 0 0) (.slice none 0 0))
  clear hB
  go_wp2
  refine bodyPost_ret (v := .agg #[.int .i64 5, .int .i64 0, .string ⟨#[]⟩, .slice A n c, .slice none 0 0, .slice none 0 0]) (by simp [results, Tryz.results24, go_sem, *]) rfl ⟨rfl, ?_⟩
  exact HB.out

theorem stepB_iff (k h : Int) (t : ByteArray) (l vs : List JV) (ks : List ByteArray) : stepB (.mk k h t l ks vs) = true ↔ (k = 4 ∨ (k = 3 ∧ h.tmod 2 = 0 ∧ 0 ≤ h ∧ h ≤ 200)) := by
  unfold stepB; simp only [and_assoc, Bool.or_eq_true, Bool.and_eq_true, beq_iff_eq, decide_eq_true_eq]; exact Iff.rfl

set_option maxRecDepth 100000 in
set_option maxHeartbeats 8000000 in
theorem straight_walk (pl : List JV) (A : Option Addr) (n c : Nat) (w : World) (hn : pl.length = n) (hm : n ≤ 9000000000000) (hA : n = 0 ∨ ∃ b o, A = some ⟨b, o, none⟩ ∧ JCells w w.heap.size pl b o) :
    Calls Tryz.prog 25 #[.slice A n c] w fun e w' => e = .returned (.bool (straightB pl)) ∧ Below w.heap.size w w' := by
  have HN := Lib.hid hn
  have HA := Lib.hid hA
  clear hn hA
  go_enter Tryz.func25, Tryz.ntmps25
  go_wp2_with fail
  go_loopw [7] (fun i wr => ∃ j : Nat, j ≤ n ∧ i = .int .i64 j ∧ (pl.take j).all stepB = true ∧ Below w.heap.size w wr) (fun i _ => n - (intOf i).toNat)
  case atStart => exact ⟨0, Nat.zero_le _, rfl, by simp, Below.refl _ _⟩
  case round =>
    obtain ⟨j, hj, rfl, hall, hbr⟩ := hrel
    obtain ⟨wo, rfl⟩ : ∃ wo, wo = wr := ⟨_, rfl⟩
    by_cases hjn : j < n
    · have hjl : j < pl.length := by rw [HN.out]; exact hjn
      obtain ⟨b1, o1, rfl, hJ⟩ : ∃ b o, A = some ⟨b, o, none⟩ ∧ JCells w w.heap.size pl b o := HA.out.resolve_left (by omega)
      obtain ⟨_, d0, d1, d2, d3, d4, d5, hRep, y0, y1, y2, y3, y4, y5⟩ := (JCells.below hbr (Nat.le_refl _) pl b1 o1 hJ).at6 j hjl
      have HNX := Lib.hid (show (pl.take (j + 1)).all stepB = stepB pl[j] by rw [List.take_succ_eq_append_getElem hjl, List.all_append, hall]; simp)
      have HST := Lib.hid (show stepB pl[j] = false → straightB pl = false from fun e => by
        unfold straightB
        cases hc : pl.all stepB with
        | false => rfl
        | true => have := List.all_eq_true.1 hc _ (List.getElem_mem hjl); rw [e] at this; cases this)
      clear hall hJ
      generalize pl[j] = y at *
      obtain ⟨k, h, t, l, ks, vs⟩ := y
      obtain ⟨A1, m1, A2, m2, A3, m3, rfl, rfl, rfl, rfl, rfl, rfl, ⟨i1, i2⟩, ⟨i3, i4⟩⟩ := rep_mk hRep
      clear hRep
      go_upto_region 4 with (fail)
      have hE := heap_alloc_new wo (.cells #[.int .i64 k, .int .i64 h, .string t, .slice A1 l.length m1, .slice A2 ks.length m2, .slice A3 vs.length m3] 26)
      have hB := hbr.alloc hbr.size (.cells #[.int .i64 k, .int .i64 h, .string t, .slice A1 l.length m1, .slice A2 ks.length m2, .slice A3 vs.length m3] 26)
      generalize wo.alloc (.cells #[.int .i64 k, .int .i64 h, .string t, .slice A1 l.length m1, .slice A2 ks.length m2, .slice A3 vs.length m3] 26) = wz at *
      obtain ⟨z0, z1, z2, z3, z4, z5⟩ := box6 hE
      clear hE y0 y1 y2 y3 y4 y5 hbr
      have HT := Lib.hid (fun hc => (stepB_iff k h t l vs ks).2 hc)
      have HF := Lib.hid (fun (hc : ¬(k = 4 ∨ (k = 3 ∧ h.tmod 2 = 0 ∧ 0 ≤ h ∧ h ≤ 200))) => HST.out (Bool.eq_false_iff.2 (fun e => hc ((stepB_iff k h t l vs ks).1 e))))
      clear HST
      generalize stepB (.mk k h t l ks vs) = sb at *
      generalize l.length = n1 at *
      generalize ks.length = n2 at *
      generalize vs.length = n3 at *
      go_wp2_with fail
      all_goals first
        | exact ⟨⟨j + 1, by omega, by go_num, by rw [HNX.out]; exact HT.out (by first | (left; assumption) | (left; rfl) | (right; refine ⟨by assumption, by assumption, by omega, by omega⟩) | (right; refine ⟨rfl, by assumption, by omega, by omega⟩)), hB⟩, by simp [intOf]; omega⟩
        | (go_ret; exact ⟨by rw [HF.out (fun hc => by omega)]; rfl, hB⟩)
    · have e : pl.take j = pl := List.take_of_length_le (by rw [HN.out]; omega)
      rw [e] at hall
      have HR := Lib.hid (show decide ((n : Int) ≤ 20) = straightB pl by unfold straightB; rw [hall, HN.out, Bool.true_and]; exact decide_eq_decide.2 (by omega))
      clear hall e
      go_wp2_with fail
      go_ret
      exact ⟨by rw [← HR.out]; rfl, hbr⟩
end Go.Proofs.YtmjegeipnaalnaaGreatDoor
