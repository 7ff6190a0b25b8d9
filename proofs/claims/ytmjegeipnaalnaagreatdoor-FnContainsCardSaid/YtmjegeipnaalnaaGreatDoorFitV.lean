/- The look at one value: the walk through its body, its elements met by their own promise. -/
import Derived.Test.YtmjegeipnaalnaaGreatDoorFitL
import Derived.Lib.Hide
import Derived.Deep.CutBlock
import Derived.Deep.LoopGhost
import Derived.StillTailTactics
namespace Go.Proofs.YtmjegeipnaalnaaGreatDoor
open Go.RowKit
set_option maxRecDepth 100000 in
set_option maxHeartbeats 8000000 in
theorem value_go {T : World → Prop} {V : ByteArray → Bool} (hV : ValidC T V) (hTg : ∀ (w w' : World) (b : Nat), T w → 3 ≤ b → w.grownBy w' (some b) → T w') (B b : Nat) (hB : B ≤ b) (hb17 : 3 ≤ b) (s : Lk) (deep : Int) (w : World) (h : LkAt b s w) (h1 : 0 ≤ s.parts) (h2 : s.parts ≤ 400) 
   (k hh : Int) (t : ByteArray) (l : List JV) (ks : List ByteArray) (vs : List JV) (A1 A2 A3 : Option Addr) (n1 n2 n3 : Nat) (m1 m2 m3 : Nat) (hm1 : Hid (m1 = l.length)) (hm2 : Hid (m2 = ks.length)) (hm3 : Hid (m3 = vs.length)) (hbad : (s.part deep).bad = false) (hT : T w) (ht : t.size ≤ 140737488351232) (hs0 : 0 ≤ s.bytes)  (hd0 : 0 ≤ deep) (hd1 : deep ≤ 1000) (hJ1 : l.length = 0 ∨ ∃ b o, A1 = some ⟨b, o, none⟩ ∧ JCells w B l b o) (hJ2 : ks.length = 0 ∨ ∃ b o, A2 = some ⟨b, o, none⟩ ∧ SCells w B ks b o) (hJ3 : vs.length = 0 ∨ ∃ b o, A3 = some ⟨b, o, none⟩ ∧ JCells w B vs b o) (hsz1 : m1 ≤ 140737488351232) (hsz2 : m2 ≤ 140737488351232) (ihl : ∀ x ∈ l, ValueC V T x) (ihv : ∀ x ∈ vs, ValueC V T x) :
    Calls Tryz.prog 54 #[.pointer (some ⟨b, 0, none⟩), .agg #[.int .i64 k, .int .i64 hh, .string t, .slice A1 m1 n1, .slice A2 m2 n2, .slice A3 m3 n3], .int .i64 deep] w fun e w' => e = .returned (.tuple #[]) ∧ LkAt b (s.value V deep (.mk k hh t l ks vs)) w' ∧ w.grownBy w' (some b) := by
  have hs1 : s.bytes ≤ 2000 := by simp [Lk.part] at hbad; omega
  have hd60 : deep ≤ 60 := by simp [Lk.part] at hbad; omega
  have HV := Lib.hid hV
  have HTg := Lib.hid hTg
  have HL := Lib.hid ihl
  have HW := Lib.hid ihv
  have HJ1 := Lib.hid hJ1
  have HJ2 := Lib.hid hJ2
  have HJ3 := Lib.hid hJ3
  clear hV hTg ihl ihv hJ1 hJ2 hJ3
  go_enter Tryz.func54, Tryz.ntmps54
  have hlt := h.lt
  have hne : w.heap.size ≠ b := by omega
  have hA : LkAt b s (w.alloc (.cells #[.int .i64 k, .int .i64 hh, .string t, .slice A1 m1 n1, .slice A2 m2 n2, .slice A3 m3 n3] 26)) := h.other (World.grownBy_alloc w _ none) (by simp)
  have hX := heap_alloc_new w (.cells #[.int .i64 k, .int .i64 hh, .string t, .slice A1 m1 n1, .slice A2 m2 n2, .slice A3 m3 n3] 26)
  have hG := World.grownBy_alloc w (.cells #[.int .i64 k, .int .i64 hh, .string t, .slice A1 m1 n1, .slice A2 m2 n2, .slice A3 m3 n3] 26) (some b)
  go_upto_region 2 with (go_at_call 93; refine (part_walk b _ deep _ hA h1 (by omega)).mono ?_; rintro e w1 ⟨rfl, h3, g3⟩; have hX1 := blk_kept hX g3 (by simpa using hne); have hG1 := hG.trans g3; clear hX g3 hG hA)
  obtain ⟨x0, x1, x2, x3, x4, x5⟩ := box6 hX1
  go_cut [] (fun wx => LkAt b ((s.part deep).want (JV.mk k hh t l ks vs).headOk) wx ∧ w1.grownBy wx (some b))
  case first => as_aux_lemma =>
    obtain ⟨b0, e0⟩ : ∃ x, (hh == 0) = x := ⟨_, rfl⟩
    obtain ⟨b1, e1⟩ : ∃ x, ((m1 : Int) == 0) = x := ⟨_, rfl⟩
    obtain ⟨b2, e2⟩ : ∃ x, ((m2 : Int) == 0) = x := ⟨_, rfl⟩
    obtain ⟨b3, e3⟩ : ∃ x, ((m2 : Int) == (m3 : Int)) = x := ⟨_, rfl⟩
    obtain ⟨b4, e4⟩ : ∃ x, t.toList.isEmpty = x := ⟨_, rfl⟩
    have hd : (JV.mk k hh t l ks vs).headOk = (decide (0 ≤ k) && decide (k ≤ 6) && (k == 3 || b0) && (k == 4 || b4) && (k == 5 || b1) && (k == 6 || b2) && b3) := by
      simp only [JV.headOk, ← hm1.out, ← hm2.out, ← hm3.out, e0, e1, e2, e3, e4]
    have Hd := Lib.hid hd
    clear hd
    have cs : k < 0 ∨ 6 < k ∨ (0 ≤ k ∧ k ≤ 2) ∨ k = 3 ∨ k = 4 ∨ k = 5 ∨ k = 6 := by omega
    rcases cs with hk | hk | ⟨hk, hk'⟩ | hk | hk | hk | hk
    all_goals (try subst hk)
    all_goals
      go_wp2_with (go_at_call 94; refine (want_walk b _ _ _ h3).mono ?_; rintro e w2 ⟨rfl, h4, g4⟩)
      all_goals
        go_meet
        refine ⟨h4.want_eq ?_, g4⟩
        rw [Hd.out]
        simp [*]
        try omega
  case rest =>
    obtain ⟨h4, g4⟩ := hcut
    have hG2 := hG1.trans g4
    have hX2 := blk_kept hX1 g4 (by simpa using hne)
    clear x0 x1 x2 x3 x4 x5 hX1 g4 hG1 h3
    generalize HS1 : (s.part deep).want (JV.mk k hh t l ks vs).headOk = S1 at h4
    have HS1' := Lib.hid HS1
    clear HS1
    obtain ⟨x0, x1, x2, x3, x4, x5⟩ := box6 hX2
    go_upto_region 3 with (fail)
    go_cut [] (fun wx => LkAt b (S1.want (JV.mk k hh t l ks vs).halfOk) wx ∧ wc.grownBy wx (some b))
    case first => as_aux_lemma =>
      obtain ⟨b1, e1⟩ : ∃ x, (hh.tmod 2 == 0) = x := ⟨_, rfl⟩
      have hd : (JV.mk k hh t l ks vs).halfOk = (decide (-18014398509481984 ≤ hh) && decide (hh ≤ 18014398509481984) && (b1 || (decide (-9007199254740992 < hh) && decide (hh < 9007199254740992)))) := by
        simp only [JV.halfOk, ← e1]; rfl
      have Hd := Lib.hid hd
      clear hd
      have cs : hh < -18014398509481984 ∨ 18014398509481984 < hh ∨ (-18014398509481984 ≤ hh ∧ hh ≤ -9007199254740992) ∨ (-9007199254740992 < hh ∧ hh < 9007199254740992) ∨ (9007199254740992 ≤ hh ∧ hh ≤ 18014398509481984) := by omega
      rcases cs with hk | hk | ⟨hk, hk'⟩ | ⟨hk, hk'⟩ | ⟨hk, hk'⟩
      all_goals
        try (have e2 : (hh % 2 == 0) = b1 := by rw [← e1, Int.tmod_eq_emod_of_nonneg (by omega)])
        go_wp2_with (go_at_call 94; refine (want_walk b _ _ _ h4).mono ?_; rintro e w2 ⟨rfl, h5, g5⟩)
        all_goals
          go_meet
          refine ⟨h5.want_eq ?_, g5⟩
          rw [Hd.out]
          first
            | (simp [*]; done)
            | (simp [*]; omega)
            | (simp [*]; right; omega)
    case rest =>
      obtain ⟨h5, g5⟩ := hcut
      have hG3 := hG2.trans g5
      have hX3 := blk_kept hX2 g5 (by simpa using hne)
      clear x0 x1 x2 x3 x4 x5 hX2 g5 hG2 h4
      generalize HS2 : S1.want (JV.mk k hh t l ks vs).halfOk = S2 at h5
      have HS2' := Lib.hid HS2
      clear HS2
      obtain ⟨x0, x1, x2, x3, x4, x5⟩ := box6 hX3
      have hbytes : S2.bytes = s.bytes := by rw [← HS2'.out, ← HS1'.out]; rfl
      have hbd : 0 ≤ S2.bytes ∧ S2.bytes ≤ 1000000000000000 := by omega
      clear hbytes
      rename_i wd
      have hTd := HTg.out _ _ b hT hb17 hG3
      go_upto_block 0 with (go_at_call 95; refine (str_walk HV.out HTg.out b _ t _ h5 hb17 hTd hbd.1 hbd.2 ht).mono ?_; rintro e w2 ⟨rfl, h6, g6⟩; have hX4 := blk_kept hX3 g6 (by simpa using hne); have hG4 := hG3.trans g6; clear hX3 g6 hG3 hTd x0 x1 x2 x3 x4 x5; obtain ⟨x0, x1, x2, x3, x4, x5⟩ := box6 hX4)
      generalize HS3 : S2.str V t = S3 at h6
      have HI : Hid S3.Inv := by
        rw [← HS3, ← HS2'.out, ← HS1'.out]
        exact (((((show s.Inv from ⟨h1, hs0, fun _ => ⟨h2, hs1⟩⟩).part deep).want _).want _).str t)
      have HS3' := Lib.hid HS3
      clear HS3
      go_cut [6] (fun i wx => LkAt b (Lk.list V (deep + 1) l S3) wx ∧ w2.grownBy wx (some b))
      case first => as_aux_lemma =>
        go_wp2_with fail
        go_loopw [6] (fun i wr => ∃ j : Nat, j ≤ m1 ∧ i = .int .i64 j ∧ LkAt b (Lk.list V (deep + 1) (l.take j) S3) wr ∧ w2.grownBy wr (some b)) (fun i _ => m1 - (intOf i).toNat)
        case atStart => exact ⟨0, Nat.zero_le _, rfl, by simpa [Lk.list] using h6, grownBy_refl _ _⟩
        case round => as_aux_lemma =>
          obtain ⟨j, hj, rfl, hr, gr⟩ := hrel
          have hXr := blk_kept hX4 gr (by simpa using hne)
          obtain ⟨y0, y1, y2, y3, y4, y5⟩ := box6 hXr
          have hc2 := hr.c2
          have hGr := hG4.trans gr
          have hTr := HTg.out _ _ b hT hb17 hGr
          have hBr := below_of_grown hGr hB hlt
          generalize HSj : Lk.list V (deep + 1) (l.take j) S3 = Sj at hr hc2
          have HSj' := Lib.hid HSj
          have HGr := Lib.hid gr
          clear HSj gr
          by_cases hjm : j < m1
          · cases hbj : Sj.bad
            · rw [hbj] at hc2
              have hjl : j < l.length := by rw [← hm1.out]; exact hjm
              obtain ⟨b1, o1, rfl, hJC⟩ : ∃ b o, A1 = some ⟨b, o, none⟩ ∧ JCells w B l b o := by
                rcases HJ1.out with h0 | h0
                · omega
                · exact h0
              obtain ⟨hb1, c0, c1, c2, c3, c4, c5, hR, z0, z1, z2, z3, z4, z5⟩ := (JCells.below hBr (Nat.le_refl _) l b1 o1 hJC).at6 j hjl
              have hI : Sj.Inv := by rw [← HSj'.out]; exact Lk.Inv.list _ _ HI.out
              go_wp2_with (go_at_call 54; refine (HL.out l[j] (List.getElem_mem hjl) B b Sj (deep + 1) [c0, c1, c2, c3, c4, c5] _ hR hB hb17 hr hTr (by omega) (by omega) hI.1 (hI.2.2 hbj).1 hI.2.1 (by have := (hI.2.2 hbj).2; omega)).mono ?_; rintro e w3 ⟨rfl, h7, g7⟩)
              go_roundw
              case rel => exact ⟨j + 1, by omega, by go_num, by rw [Lk.list_take V _ l S3 j hjl (by rw [HSj'.out]; exact hbj), HSj'.out]; exact h7, (HGr.out).trans g7⟩
              case measure => simp [intOf]; omega
            · rw [hbj] at hc2
              go_wp2_with fail
              go_meet
              exact ⟨by rw [Lk.list_stop V _ l S3 j (by rw [HSj'.out]; exact hbj), HSj'.out]; exact hr, HGr.out⟩
          · have hje : l.take j = l := List.take_of_length_le (by rw [← hm1.out]; omega)
            go_wp2_with fail
            go_meet
            exact ⟨by rw [← hje, HSj'.out]; exact hr, HGr.out⟩
      case rest =>
        obtain ⟨h7, g7⟩ := hcut
        have hG5 := hG4.trans g7
        have hX5 := blk_kept hX4 g7 (by simpa using hne)
        clear x0 x1 x2 x3 x4 x5 hX4 g7 hG4 h6
        generalize HS4 : Lk.list V (deep + 1) l S3 = S4 at h7
        have HI4 : Hid S4.Inv := by rw [← HS4]; exact Lk.Inv.list _ _ HI.out
        have hlen : Hid (S4.bad = false → ks.length = vs.length) := by
          intro hb
          have q3 : S3.bad = false := by
            cases q : S3.bad with
            | false => rfl
            | true => rw [← HS4, Lk.list_sticky V _ l S3 q] at hb; cases hb
          have q2 : S2.bad = false := by
            rw [← HS3'.out] at q3
            simp [Lk.str] at q3
            exact q3.1
          rw [← HS2'.out] at q2
          simp [Lk.want] at q2
          have q1 := q2.1
          rw [← HS1'.out] at q1
          simp [Lk.want, JV.headOk] at q1
          omega
        have HFin : Hid (Lk.value V deep (JV.mk k hh t l ks vs) s = Lk.entries V (deep + 1) vs ks none S4) := by
          show Lk.value V deep (JV.mk k hh t l ks vs) s = _
          rw [← HS4, ← HS3'.out, ← HS2'.out, ← HS1'.out]
          simp only [Lk.value, hbad, Bool.false_eq_true, if_false]
        have HS4' := Lib.hid HS4
        clear HS4
        obtain ⟨x0, x1, x2, x3, x4, x5⟩ := box6 hX5
        obtain ⟨we, rfl⟩ : ∃ we : World, we = wc := ⟨_, rfl⟩
        go_wp2_with fail
        go_loopw [7] (fun i wr => ∃ j : Nat, j ≤ m2 ∧ i = .int .i64 j ∧ LkAt b (Lk.entries V (deep + 1) (vs.take j) (ks.take j) none S4) wr ∧ we.grownBy wr (some b)) (fun i _ => m2 - (intOf i).toNat)
        case atStart => exact ⟨0, Nat.zero_le _, rfl, by simpa [Lk.entries] using h7, grownBy_refl _ _⟩
        case round => as_aux_lemma =>
          obtain ⟨j, hj, rfl, hr, gr⟩ := hrel
          have hXr := blk_kept hX5 gr (by simpa using hne)
          obtain ⟨y0, y1, y2, y3, y4, y5⟩ := box6 hXr
          have hc2 := hr.c2
          have hGr := hG5.trans gr
          have hTr := HTg.out _ _ b hT hb17 hGr
          have hBr := below_of_grown hGr hB hlt
          generalize HSj : Lk.entries V (deep + 1) (vs.take j) (ks.take j) none S4 = Sj at hr hc2
          have HSj' := Lib.hid HSj
          have HGr := Lib.hid gr
          clear HSj gr
          by_cases hjm : j < m2
          · cases hbj : Sj.bad
            · rw [hbj] at hc2
              have hjl : j < ks.length := by rw [← hm2.out]; exact hjm
              obtain ⟨b1, o1, rfl, hJC⟩ : ∃ b o, A2 = some ⟨b, o, none⟩ ∧ SCells w B ks b o := by
                rcases HJ2.out with h0 | h0
                · omega
                · exact h0
              have hSC := SCells.below hBr (Nat.le_refl _) ks b1 o1 hJC
              obtain ⟨hb1, hkz, hkc⟩ := SCells.get ks b1 o1 hSC j hjl
              have hI : Sj.Inv := by rw [← HSj'.out]; exact Lk.Inv.entries _ _ _ _ HI4.out
              have hbb := hI.2.2 hbj
              have hIb := hI.2.1
              go_upto_region 13 with (go_at_call 95; refine (str_walk HV.out HTg.out b _ ks[j] _ hr hb17 hTr hIb (by omega) hkz).mono ?_; rintro e w3 ⟨rfl, h8, g8⟩)
              have hGr3 := hGr.trans g8
              have hX3 := blk_kept hXr g8 (by simpa using hne)
              have hB3 := below_of_grown hGr3 hB hlt
              have hT3 := HTg.out _ _ b hT hb17 hGr3
              have hSC3 := SCells.below hB3 (Nat.le_refl _) ks b1 o1 hJC
              clear y0 y1 y2 y3 y4 y5 hXr hTr hBr hc2 hr hGr hkc hkz hSC
              obtain ⟨y0, y1, y2, y3, y4, y5⟩ := box6 hX3
              obtain ⟨_, _, hkc⟩ := SCells.get ks b1 o1 hSC3 j hjl
              go_cut [] (fun wx => LkAt b ((Sj.str V ks[j]).want (prevOk (prevKey j ks none) ks[j])) wx ∧ w3.grownBy wx (some b))
              case first => as_aux_lemma =>
                by_cases hj0 : j = 0
                · subst hj0
                  clear HV HTg HL HW HJ1 HJ2 HJ3 hm1 hm2 hm3 HI hlen HS1' HS2' HS3' HS4' HSj' HI4 hbd hd60 hd0 hd1 ht hT
                  refine wp_region_quiet_tail 17 (by kernel_rfl) (by kernel_rfl) ?_
                  simp only [List.take_succ_cons, List.take_zero, List.drop_succ_cons, List.drop_zero]
                  repeat (go_big_quiet_step (fail))
                  refine wpQuiet_nil ?_
                  go_wp2_with (go_at_call 94; refine (want_walk b _ _ _ h8.drew).mono ?_; rintro e w4 ⟨rfl, h9, g9⟩)
                  go_meet
                  exact ⟨h9.want_eq rfl, (grownBy_drew w3 _).trans g9⟩
                · have hjp : 0 < j := by omega
                  have hjb : ((j : Int) == 0) = false := by simp; omega
                  obtain ⟨_, _, hkd⟩ := SCells.get ks b1 o1 hSC3 (j - 1) (by omega)
                  have e0 : prevOk (prevKey j ks none) ks[j] = keyLt (ks[j - 1]'(by omega)) ks[j] := by
                    unfold prevKey
                    rw [if_neg hj0, List.getElem?_eq_getElem (by omega)]
                    rfl
                  have E0 := Lib.hid e0
                  clear e0 hj0 HV HTg HL HW HJ1 HJ2 HJ3 hm1 hm2 hm3 HI hlen HS1' HS2' HS3' HS4' HSj' HI4 hbd hd60 hd0 hd1 ht hT
                  refine wp_region_quiet_tail 17 (by kernel_rfl) (by kernel_rfl) ?_
                  simp only [List.take_succ_cons, List.take_zero, List.drop_succ_cons, List.drop_zero]
                  repeat (go_big_quiet_step (fail))
                  refine wpQuiet_nil ?_
                  go_wp2_with (go_at_call 94; refine (want_walk b _ _ _ h8.drew).mono ?_; rintro e w4 ⟨rfl, h9, g9⟩)
                  go_meet
                  exact ⟨h9.want_eq E0.out, (grownBy_drew w3 _).trans g9⟩
              case rest =>
                obtain ⟨h9, g9⟩ := hcut
                have hGr4 := hGr3.trans g9
                have hX4 := blk_kept hX3 g9 (by simpa using hne)
                have hB4 := below_of_grown hGr4 hB hlt
                have hT4 := HTg.out _ _ b hT hb17 hGr4
                have hGw := HGr.out.trans (g8.trans g9)
                have hvl : j < vs.length := by
                  have q : S4.bad = false := by
                    cases q : S4.bad with
                    | false => rfl
                    | true => rw [← HSj'.out, Lk.entries_bad V _ _ _ _ S4 q, q] at hbj; cases hbj
                  rw [← hlen.out q]; exact hjl
                obtain ⟨b2, o2, rfl, hJV⟩ : ∃ b o, A3 = some ⟨b, o, none⟩ ∧ JCells w B vs b o := by
                  rcases HJ3.out with h0 | h0
                  · omega
                  · exact h0
                obtain ⟨hb2, c0, c1, c2, c3, c4, c5, hR, z0, z1, z2, z3, z4, z5⟩ := (JCells.below hB4 (Nat.le_refl _) vs b2 o2 hJV).at6 j hvl
                have HGw := Lib.hid hGw
                clear y0 y1 y2 y3 y4 y5 hX3 hT3 hB3 h8 g8 g9 hkc hGw hSC3
                obtain ⟨y0, y1, y2, y3, y4, y5⟩ := box6 hX4
                have hStep := Lk.entries_take V (deep + 1) vs ks S4 j hvl hjl (by rw [HSj'.out]; exact hbj)
                rw [HSj'.out] at hStep
                have HStep := Lib.hid hStep
                clear hStep
                generalize HS5 : (Sj.str V ks[j]).want (prevOk (prevKey j ks none) ks[j]) = S5 at h9
                have HS5' := Lib.hid HS5
                clear HS5
                have hjm3 : j < m3 := by rw [hm3.out]; exact hvl
                have hI5 : S5.Inv := by rw [← HS5'.out]; exact (hI.str _).want _
                have hp5 : S5.parts ≤ 400 ∧ S5.bytes ≤ 200000000000000 := by
                  have e1 : S5.parts = Sj.parts := by rw [← HS5'.out]; rfl
                  have e2 : S5.bytes = Sj.bytes + (ks[j]).size := by rw [← HS5'.out]; rfl
                  have := hbb; omega
                go_wp2_with (go_at_call 54; refine (HW.out vs[j] (List.getElem_mem hvl) B b S5 (deep + 1) [c0, c1, c2, c3, c4, c5] _ hR hB hb17 h9 hT4 (by omega) (by omega) hI5.1 hp5.1 hI5.2.1 hp5.2).mono ?_; rintro e w5 ⟨rfl, h10, g10⟩)
                go_roundw
                case rel => exact ⟨j + 1, by omega, by go_num, by rw [HStep.out, HS5'.out]; exact h10, HGw.out.trans g10⟩
                case measure => simp [intOf]; omega
            · rw [hbj] at hc2
              have hfin : Lk.value V deep (JV.mk k hh t l ks vs) s = Sj := by
                rw [HFin.out]
                cases q : S4.bad with
                | true => rw [← HSj'.out, Lk.entries_bad V _ _ _ _ S4 q, Lk.entries_bad V _ _ _ _ S4 q]
                | false => rw [Lk.entries_stop V _ vs ks none S4 j (by rw [← hlen.out q, ← hm2.out]; omega) (by rw [← hm2.out]; omega) (by rw [HSj'.out]; exact hbj), HSj'.out]
              have HF := Lib.hid hfin
              have HGw := Lib.hid hGr
              clear hfin hGr
              go_wp2_with fail
              go_end0
              exact ⟨rfl, by rw [HF.out]; exact hr, HGw.out⟩
          · have hfin : Lk.value V deep (JV.mk k hh t l ks vs) s = Sj := by
              rw [HFin.out]
              cases q : S4.bad with
              | true => rw [← HSj'.out, Lk.entries_bad V _ _ _ _ S4 q, Lk.entries_bad V _ _ _ _ S4 q]
              | false => rw [← HSj'.out, List.take_of_length_le (by rw [← hlen.out q, ← hm2.out]; omega), List.take_of_length_le (by rw [← hm2.out]; omega)]
            have HF := Lib.hid hfin
            have HGw := Lib.hid hGr
            clear hfin hGr
            go_wp2_with fail
            go_end0
            exact ⟨rfl, by rw [HF.out]; exact hr, HGw.out⟩
end Go.Proofs.YtmjegeipnaalnaaGreatDoor
