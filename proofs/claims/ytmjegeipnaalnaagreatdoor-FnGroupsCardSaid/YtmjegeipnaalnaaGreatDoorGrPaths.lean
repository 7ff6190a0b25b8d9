/- Paths held against what the law asks of them: keys and small indices alone; neither the beginning of the other one. Two paths of which neither is the beginning of the other one: the walk that tells it. -/
import Derived.Test.YtmjegeipnaalnaaGreatDoorGrGetP
import Derived.Test.YtmjegeipnaalnaaGreatDoorGrSameT
import Derived.Test.YtmjegeipnaalnaaGreatDoorGrVague

/- Paths held against what the law asks of them: keys and small indices alone; neither the beginning of the other one. -/
namespace Go.Proofs.YtmjegeipnaalnaaGreatDoor
open Go.RowKit

theorem rep_mk {w : World} {B : Nat} {k h : Int} {t : ByteArray} {l vs : List JV} {ks : List ByteArray} {d0 d1 d2 d3 d4 d5 : Value} (hr : JRep w B (.mk k h t l ks vs) [d0, d1, d2, d3, d4, d5]) :
    ∃ A1 m1 A2 m2 A3 m3, d0 = .int .i64 k ∧ d1 = .int .i64 h ∧ d2 = .string t ∧ d3 = .slice A1 l.length m1 ∧ d4 = .slice A2 ks.length m2 ∧ d5 = .slice A3 vs.length m3 ∧ I64 k ∧ I64 h := by
  unfold JRep at hr
  obtain ⟨h1, h2, _, vl, vk, vv, e, ⟨A1, m1, rfl, _⟩, ⟨A2, m2, rfl, _⟩, ⟨A3, m3, rfl, _⟩⟩ := hr
  simp only [List.cons.injEq, and_true] at e
  obtain ⟨rfl, rfl, rfl, rfl, rfl, rfl⟩ := e
  exact ⟨_, _, _, _, _, _, rfl, rfl, rfl, rfl, rfl, rfl, h1, h2⟩

set_option maxRecDepth 100000 in
set_option maxHeartbeats 1000000 in
theorem array_walk (A : Option Addr) (n c : Nat) (w : World) :
    Calls Tryz.prog 24 #[.slice A n c] w fun e w' => e = .returned (.agg #[.int .i64 5, .int .i64 0, .string ⟨#[]⟩, .slice A n c, .slice none 0 0, .slice none 0 0]) ∧ Below w.heap.size w w' := by
  have hX := heap_alloc_new w (.cells #[.int .i64 0, .int .i64 0, .string ⟨#[]⟩, .slice none 0 0, .slice none 0 0, .slice none 0 0] 26)
  have hB := (Below.refl w.heap.size w).alloc (Nat.le_refl _) (.cells #[.int .i64 0, .int .i64 0, .string ⟨#[]⟩, .slice none 0 0, .slice none 0 0, .slice none 0 0] 26)
  have hsz : w.heap.size < (w.alloc (.cells #[.int .i64 0, .int .i64 0, .string ⟨#[]⟩, .slice none 0 0, .slice none 0 0, .slice none 0 0] 26)).heap.size := by simp
  go_enter Tryz.func24, Tryz.ntmps24
  go_upto_region 1 with (fail)
  generalize w.alloc (.cells #[.int .i64 0, .int .i64 0, .string ⟨#[]⟩, .slice none 0 0, .slice none 0 0, .slice none 0 0] 26) = w1 at *
  obtain ⟨x0, x1, x2, x3, x4, x5⟩ := box6 hX
  obtain ⟨f0, f1, f2, f3, f4, f5, _⟩ := frozen7 hX
  have HB := Lib.hid (below_set6 hB (Nat.le_refl _) (.int .i64 5) (.int .i64 0) (.string ⟨#[]⟩) (.slice A n c) (.slice none 0 0) (.slice none 0 0))
  clear hB
  go_wp2
  refine bodyPost_ret (v := .agg #[.int .i64 5, .int .i64 0, .string ⟨#[]⟩, .slice A n c, .slice none 0 0, .slice none 0 0]) (by simp [results, Tryz.results24, go_sem, *]) rfl ⟨rfl, ?_⟩
  exact HB.out

theorem stepB_iff (k h : Int) (t : ByteArray) (l vs : List JV) (ks : List ByteArray) : stepB (.mk k h t l ks vs) = true ↔ (k = 4 ∨ (k = 3 ∧ h.tmod 2 = 0 ∧ 0 ≤ h ∧ h ≤ 200)) := by
  unfold stepB; simp only [and_assoc, Bool.or_eq_true, Bool.and_eq_true, beq_iff_eq, decide_eq_true_eq]; exact Iff.rfl

set_option maxRecDepth 100000 in
set_option maxHeartbeats 8000000 in
theorem straight_walk (pl : List JV) (A : Option Addr) (n c : Nat) (w : World) (hn : pl.length = n) (hm : n ≤ 9000000000000) (hA : n = 0 ∨ ∃ b o, A = some ⟨b, o, none⟩ ∧ JCells w w.heap.size pl b o) :
    Calls Tryz.prog 25 #[.slice A n c] w fun e w' => e = .returned (.bool (straightB pl)) ∧ Below w.heap.size w w' := by
  have HN := Lib.hid hn
  have HA := Lib.hid hA
  clear hn hA
  go_enter Tryz.func25, Tryz.ntmps25
  go_wp2_with fail
  go_loopw [7] (fun i wr => ∃ j : Nat, j ≤ n ∧ i = .int .i64 j ∧ (pl.take j).all stepB = true ∧ Below w.heap.size w wr) (fun i _ => n - (intOf i).toNat)
  case atStart => exact ⟨0, Nat.zero_le _, rfl, by simp, Below.refl _ _⟩
  case round =>
    obtain ⟨j, hj, rfl, hall, hbr⟩ := hrel
    obtain ⟨wo, rfl⟩ : ∃ wo, wo = wr := ⟨_, rfl⟩
    by_cases hjn : j < n
    · have hjl : j < pl.length := by rw [HN.out]; exact hjn
      obtain ⟨b1, o1, rfl, hJ⟩ : ∃ b o, A = some ⟨b, o, none⟩ ∧ JCells w w.heap.size pl b o := HA.out.resolve_left (by omega)
      obtain ⟨_, d0, d1, d2, d3, d4, d5, hRep, y0, y1, y2, y3, y4, y5⟩ := (JCells.below hbr (Nat.le_refl _) pl b1 o1 hJ).at6 j hjl
      have HNX := Lib.hid (show (pl.take (j + 1)).all stepB = stepB pl[j] by rw [List.take_succ_eq_append_getElem hjl, List.all_append, hall]; simp)
      have HST := Lib.hid (show stepB pl[j] = false → straightB pl = false from fun e => by
        unfold straightB
        cases hc : pl.all stepB with
        | false => rfl
        | true => have := List.all_eq_true.1 hc _ (List.getElem_mem hjl); rw [e] at this; cases this)
      clear hall hJ
      generalize pl[j] = y at *
      obtain ⟨k, h, t, l, ks, vs⟩ := y
      obtain ⟨A1, m1, A2, m2, A3, m3, rfl, rfl, rfl, rfl, rfl, rfl, ⟨i1, i2⟩, ⟨i3, i4⟩⟩ := rep_mk hRep
      clear hRep
      go_upto_region 4 with (fail)
      have hE := heap_alloc_new wo (.cells #[.int .i64 k, .int .i64 h, .string t, .slice A1 l.length m1, .slice A2 ks.length m2, .slice A3 vs.length m3] 26)
      have hB := hbr.alloc hbr.size (.cells #[.int .i64 k, .int .i64 h, .string t, .slice A1 l.length m1, .slice A2 ks.length m2, .slice A3 vs.length m3] 26)
      generalize wo.alloc (.cells #[.int .i64 k, .int .i64 h, .string t, .slice A1 l.length m1, .slice A2 ks.length m2, .slice A3 vs.length m3] 26) = wz at *
      obtain ⟨z0, z1, z2, z3, z4, z5⟩ := box6 hE
      clear hE y0 y1 y2 y3 y4 y5 hbr
      have HT := Lib.hid (fun hc => (stepB_iff k h t l vs ks).2 hc)
      have HF := Lib.hid (fun (hc : ¬(k = 4 ∨ (k = 3 ∧ h.tmod 2 = 0 ∧ 0 ≤ h ∧ h ≤ 200))) => HST.out (Bool.eq_false_iff.2 (fun e => hc ((stepB_iff k h t l vs ks).1 e))))
      clear HST
      generalize stepB (.mk k h t l ks vs) = sb at *
      generalize l.length = n1 at *
      generalize ks.length = n2 at *
      generalize vs.length = n3 at *
      go_wp2_with fail
      all_goals first
        | exact ⟨⟨j + 1, by omega, by go_num, by rw [HNX.out]; exact HT.out (by first | (left; assumption) | (left; rfl) | (right; refine ⟨by assumption, by assumption, by omega, by omega⟩) | (right; refine ⟨rfl, by assumption, by omega, by omega⟩)), hB⟩, by simp [intOf]; omega⟩
        | (go_ret; exact ⟨by rw [HF.out (fun hc => by omega)]; rfl, hB⟩)
    · have e : pl.take j = pl := List.take_of_length_le (by rw [HN.out]; omega)
      rw [e] at hall
      have HR := Lib.hid (show decide ((n : Int) ≤ 20) = straightB pl by unfold straightB; rw [hall, HN.out, Bool.true_and]; exact decide_eq_decide.2 (by omega))
      clear hall e
      go_wp2_with fail
      go_ret
      exact ⟨by rw [← HR.out]; rfl, hbr⟩
end Go.Proofs.YtmjegeipnaalnaaGreatDoor

/- Two paths of which neither is the beginning of the other one: the walk that tells it. -/
namespace Go.Proofs.YtmjegeipnaalnaaGreatDoor
open Go.RowKit

/-- How two texts compare. -/
def cmpB (a b : ByteArray) : Int := if keyLt a b then -1 else if keyLt b a then 1 else 0
theorem cmpB_zero (a b : ByteArray) : (cmpB a b == 0) = decide (a = b) := by
  unfold cmpB
  rcases tri a b with rfl | ⟨h1, h2, _, _, hne⟩ | ⟨h1, h2, _, _, hne⟩
  · have : keyLt a a = false := bl_irrefl _
    simp [this]
  · simp [h1, hne]
  · simp [h1, h2, hne]
set_option maxRecDepth 100000 in
theorem texts_walk (a b : ByteArray) (w : World) : Calls Tryz.prog 127 #[.string a, .string b] w fun e w' => e = .returned (.int .i64 (cmpB a b)) ∧ Below w.heap.size w w' := by
  unfold cmpB
  rcases tri a b with rfl | ⟨h1, h2, h3, h4, _⟩ | ⟨h1, h2, h3, h4, _⟩
  · have h1 : keyLt a a = false := bl_irrefl _
    rw [h1]
    have h2 : Op.bytesLess a.toList a.toList = false := h1
    have h3 : (a.toList == a.toList) = true := by simp
    clear h1
    simp only [Bool.false_eq_true, if_false]
    go_enter Tryz.func127, Tryz.ntmps127
    go_wp2_with fail
    go_ret
    exact ⟨rfl, Below.refl _ _⟩
  · rw [h1]
    have g1 : Op.bytesLess a.toList b.toList = true := h1
    clear h1 h2
    simp only [if_true]
    go_enter Tryz.func127, Tryz.ntmps127
    go_wp2_with fail
    go_ret
    exact ⟨rfl, Below.refl _ _⟩
  · rw [h1, h2]
    have g1 : Op.bytesLess a.toList b.toList = false := h2
    clear h1 h2
    simp only [Bool.false_eq_true, if_false, if_true]
    go_enter Tryz.func127, Tryz.ntmps127
    go_wp2_with fail
    go_ret
    exact ⟨rfl, Below.refl _ _⟩
theorem apartT_cons (a b : Step) (p q : List Step) : apartT (a :: p) (b :: q) = if a = b then apartT p q else true := by
  conv => lhs; unfold apartT

/-- How two steps compare. -/
def cmpS (a b : JV) : Int := if a.kind ≠ b.kind then sgn (a.kind - b.kind) else if a.kind = 3 then sgn (a.half - b.half) else cmpB a.text b.text
theorem sgn_eq_zero (n : Int) : (sgn n == 0) = decide (n = 0) := by
  unfold sgn
  by_cases h : n < 0
  · simp [h]; omega
  · by_cases h2 : 0 < n
    · simp [h, h2]; omega
    · have : n = 0 := by omega
      subst this; rfl
theorem cmpS_zero {a b : JV} (ha : stepB a = true) (hb : stepB b = true) : (cmpS a b == 0) = decide (stepOf a = stepOf b) := by
  unfold cmpS
  rcases stepB_spec ha with h4 | ⟨h3, i, hi, _⟩
  · rcases stepB_spec hb with g4 | ⟨g3, j, hj, _⟩
    · rw [if_neg (by omega), if_neg (by omega), step_eq_key h4 g4]; exact cmpB_zero _ _
    · rw [if_pos (by omega), stepOf_key h4, stepOf_idx g3 hj, sgn_eq_zero]
      simp [h4, g3]
  · rcases stepB_spec hb with g4 | ⟨g3, j, hj, _⟩
    · rw [if_pos (by omega), stepOf_idx h3 hi, stepOf_key g4, sgn_eq_zero]
      simp [h3, g4]
    · rw [if_neg (by omega), if_pos h3, step_eq_idx h3 g3 hi hj, sgn_eq_zero]
      exact decide_eq_decide.2 (by omega)

set_option maxRecDepth 100000 in
set_option maxHeartbeats 4000000 in
theorem cmp_step (a b : JV) (ha : stepB a = true) (hb : stepB b = true) (x y : Value) (w : World) (hx : JVal w w.heap.size a x) (hy : JVal w w.heap.size b y) :
    Calls Tryz.prog 80 #[x, y] w fun e w' => e = .returned (.int .i64 (cmpS a b)) ∧ Below w.heap.size w w' := by
  have hsa := stepB_spec ha
  have hsb := stepB_spec hb
  unfold cmpS
  obtain ⟨k, h, t, l, ks, vs⟩ := a
  obtain ⟨k', h', t', l', ks', vs'⟩ := b
  obtain ⟨a0, a1, a2, rfl, _⟩ := hx.laid
  obtain ⟨b0, b1, b2, rfl, _⟩ := hy.laid
  simp only [JV.kind, JV.half, JV.text] at *
  obtain ⟨hX, hY⟩ := two_new w (.cells #[.int .i64 k, .int .i64 h, .string t, a0, a1, a2] 26) (.cells #[.int .i64 k', .int .i64 h', .string t', b0, b1, b2] 26)
  have hB := ((Below.refl w.heap.size w).alloc (Nat.le_refl _) (.cells #[.int .i64 k, .int .i64 h, .string t, a0, a1, a2] 26)).alloc (by simp) (.cells #[.int .i64 k', .int .i64 h', .string t', b0, b1, b2] 26)
  have hsz : w.heap.size + 2 ≤ ((w.alloc (.cells #[.int .i64 k, .int .i64 h, .string t, a0, a1, a2] 26)).alloc (.cells #[.int .i64 k', .int .i64 h', .string t', b0, b1, b2] 26)).heap.size := by simp
  have CT := Lib.hid (fun W => texts_walk t t' W)
  generalize cmpB t t' = z at *
  clear hx hy ha hb
  rcases hsa with rfl | ⟨rfl, i, rfl, hi⟩ <;> rcases hsb with rfl | ⟨rfl, j, rfl, hj⟩
  · simp only [ne_eq, not_true_eq_false, if_false, show ¬((4 : Int) = 3) by decide]
    go_enter Tryz.func80, Tryz.ntmps80
    go_upto_region 1 with (fail)
    generalize ((w.alloc (.cells #[.int .i64 _, .int .i64 _, .string t, a0, a1, a2] 26)).alloc (.cells #[.int .i64 _, .int .i64 _, .string t', b0, b1, b2] 26)) = w2 at *
    obtain ⟨p0, p1, p2, p3, p4, p5, r0, r1, r2, r3, r4, r5⟩ := boxes12 (Below.refl _ w2) hX hY
    go_wp2_with (first | (go_at_call 127; refine (CT.out _).mono ?_; rintro e w3 ⟨rfl, hb3⟩))
    go_ret
    exact ⟨rfl, hB.trans (hb3.mono (by omega))⟩
  · simp only [ne_eq, show ¬((4 : Int) = 3) by decide, not_false_eq_true, if_true]
    have CS := Lib.hid (fun W => sign_walk 1 W)
    go_enter Tryz.func80, Tryz.ntmps80
    go_upto_region 1 with (fail)
    generalize ((w.alloc (.cells #[.int .i64 _, .int .i64 _, .string t, a0, a1, a2] 26)).alloc (.cells #[.int .i64 _, .int .i64 _, .string t', b0, b1, b2] 26)) = w2 at *
    obtain ⟨p0, p1, p2, p3, p4, p5, r0, r1, r2, r3, r4, r5⟩ := boxes12 (Below.refl _ w2) hX hY
    go_wp2_with (first | (go_at_call 126; refine (CS.out _).mono ?_; rintro e w3 ⟨rfl, rfl⟩))
    go_ret
    exact ⟨rfl, hB⟩
  · simp only [ne_eq, show ¬((3 : Int) = 4) by decide, not_false_eq_true, if_true]
    have CS := Lib.hid (fun W => sign_walk (-1) W)
    go_enter Tryz.func80, Tryz.ntmps80
    go_upto_region 1 with (fail)
    generalize ((w.alloc (.cells #[.int .i64 _, .int .i64 _, .string t, a0, a1, a2] 26)).alloc (.cells #[.int .i64 _, .int .i64 _, .string t', b0, b1, b2] 26)) = w2 at *
    obtain ⟨p0, p1, p2, p3, p4, p5, r0, r1, r2, r3, r4, r5⟩ := boxes12 (Below.refl _ w2) hX hY
    go_wp2_with (first | (go_at_call 126; refine (CS.out _).mono ?_; rintro e w3 ⟨rfl, rfl⟩))
    go_ret
    exact ⟨rfl, hB⟩
  · simp only [ne_eq, not_true_eq_false, if_false, if_true]
    refine (Cmp_num _ _ _ _ _ _ _ _ _ _ w (by omega) (by omega) (by omega) (by omega)).mono ?_
    rintro e w3 ⟨rfl, hb3⟩
    exact ⟨rfl, hb3⟩

set_option maxRecDepth 100000 in
set_option maxHeartbeats 4000000 in
theorem same_step (a b : JV) (ha : stepB a = true) (hb : stepB b = true) (x y : Value) (w : World) (hx : JVal w w.heap.size a x) (hy : JVal w w.heap.size b y) :
    Calls Tryz.prog 40 #[x, y] w fun e w' => e = .returned (.bool (decide (stepOf a = stepOf b))) ∧ Below w.heap.size w w' := by
  have CC := Lib.hid (fun W p q => cmp_step a b ha hb x y W p q)
  have HZ := cmpS_zero ha hb
  generalize cmpS a b = z at *
  generalize decide (stepOf a = stepOf b) = r at *
  obtain ⟨k, h, t, l, ks, vs⟩ := a
  obtain ⟨k', h', t', l', ks', vs'⟩ := b
  obtain ⟨a0, a1, a2, rfl, _⟩ := hx.laid
  obtain ⟨b0, b1, b2, rfl, _⟩ := hy.laid
  obtain ⟨hX, hY⟩ := two_new w (.cells #[.int .i64 k, .int .i64 h, .string t, a0, a1, a2] 26) (.cells #[.int .i64 k', .int .i64 h', .string t', b0, b1, b2] 26)
  have hB := ((Below.refl w.heap.size w).alloc (Nat.le_refl _) (.cells #[.int .i64 k, .int .i64 h, .string t, a0, a1, a2] 26)).alloc (by simp) (.cells #[.int .i64 k', .int .i64 h', .string t', b0, b1, b2] 26)
  have hsz : w.heap.size + 2 ≤ ((w.alloc (.cells #[.int .i64 k, .int .i64 h, .string t, a0, a1, a2] 26)).alloc (.cells #[.int .i64 k', .int .i64 h', .string t', b0, b1, b2] 26)).heap.size := by simp
  have HZ2 := Lib.hid HZ
  clear HZ ha hb
  go_enter Tryz.func40, Tryz.ntmps40
  go_upto_region 1 with (fail)
  generalize ((w.alloc (.cells #[.int .i64 k, .int .i64 h, .string t, a0, a1, a2] 26)).alloc (.cells #[.int .i64 k', .int .i64 h', .string t', b0, b1, b2] 26)) = w2 at *
  obtain ⟨p0, p1, p2, p3, p4, p5, r0, r1, r2, r3, r4, r5⟩ := boxes12 (Below.refl _ w2) hX hY
  go_wp2_with fail
  refine (CC.out w2 (hx.below hB (by omega)) (hy.below hB (by omega))).mono ?_
  rintro e w3 ⟨rfl, hb3⟩
  have hq := HZ2.out
  go_wp2_with fail
  go_ret
  exact ⟨by first | rfl | simp, hB.trans (hb3.mono (by omega))⟩

set_option maxRecDepth 100000 in
set_option maxHeartbeats 4000000 in
theorem apart_walk (p q : List JV) (A B : Option Addr) (n m c d : Nat) (w : World) (hn : p.length = n) (hm : q.length = m) (hn2 : n ≤ 9000000000000) (_hm2 : m ≤ 9000000000000) (sp : ∀ v ∈ p, stepB v = true) (sq : ∀ v ∈ q, stepB v = true)
    (hA : n = 0 ∨ ∃ b o, A = some ⟨b, o, none⟩ ∧ JCells w w.heap.size p b o) (hB : m = 0 ∨ ∃ b o, B = some ⟨b, o, none⟩ ∧ JCells w w.heap.size q b o) :
    Calls Tryz.prog 26 #[.slice A n c, .slice B m d] w fun e w' => e = .returned (.bool (apartT (stepsOf p) (stepsOf q))) ∧ Below w.heap.size w w' := by
  have HN := Lib.hid hn
  have HM := Lib.hid hm
  have HA := Lib.hid hA
  have HB := Lib.hid hB
  have LP := Lib.hid (show (stepsOf p).length = n by unfold stepsOf; rw [List.length_map, hn])
  have LQ := Lib.hid (show (stepsOf q).length = m by unfold stepsOf; rw [List.length_map, hm])
  clear hn hm hA hB
  go_enter Tryz.func26, Tryz.ntmps26
  go_wp2_with fail
  go_loopw [5] (fun i wr => ∃ j : Nat, j ≤ n ∧ j ≤ m ∧ i = .int .i64 j ∧ apartT (stepsOf p) (stepsOf q) = apartT ((stepsOf p).drop j) ((stepsOf q).drop j) ∧ Below w.heap.size w wr) (fun i _ => n - (intOf i).toNat)
  case atStart => exact ⟨0, Nat.zero_le _, Nat.zero_le _, rfl, by simp, Below.refl _ _⟩
  case round =>
    obtain ⟨j, hj, hj2, rfl, hap, hbr⟩ := hrel
    obtain ⟨wo, rfl⟩ : ∃ wo, wo = wr := ⟨_, rfl⟩
    by_cases hjn : j < n
    · by_cases hjm : j < m
      · have hjl : j < p.length := by rw [HN.out]; exact hjn
        have hjq : j < q.length := by rw [HM.out]; exact hjm
        obtain ⟨b1, o1, rfl, hJ⟩ : ∃ b o, A = some ⟨b, o, none⟩ ∧ JCells w w.heap.size p b o := HA.out.resolve_left (by omega)
        obtain ⟨b2, o2, rfl, hJ2⟩ : ∃ b o, B = some ⟨b, o, none⟩ ∧ JCells w w.heap.size q b o := HB.out.resolve_left (by omega)
        obtain ⟨_, d0, d1, d2, d3, d4, d5, hRep, y0, y1, y2, y3, y4, y5⟩ := (JCells.below hbr (Nat.le_refl _) p b1 o1 hJ).at6 j hjl
        obtain ⟨k1, h1, t1, A1, n1, m1, A2, n2, m2, A3, n3, m3, rfl, rfl, rfl, rfl, rfl, rfl⟩ := hRep.shape
        obtain ⟨_, e0, e1, e2, e3, e4, e5, hRep2, z0, z1, z2, z3, z4, z5⟩ := (JCells.below hbr (Nat.le_refl _) q b2 o2 hJ2).at6 j hjq
        obtain ⟨k2, h2, t2, B1, p1, q1, B2, p2, q2, B3, p3, q3, rfl, rfl, rfl, rfl, rfl, rfl⟩ := hRep2.shape
        have CI := Lib.hid (fun dd os => same_step p[j] q[j] (sp _ (List.getElem_mem hjl)) (sq _ (List.getElem_mem hjq)) (.agg #[.int .i64 k1, .int .i64 h1, .string t1, .slice A1 n1 m1, .slice A2 n2 m2, .slice A3 n3 m3]) (.agg #[.int .i64 k2, .int .i64 h2, .string t2, .slice B1 p1 q1, .slice B2 p2 q2, .slice B3 p3 q3]) (Sort.grow (redrawn wo dd) os)
          ⟨_, _, _, _, _, _, rfl, hRep.below ((below_regrown wo dd os).mono hbr.size) (by have := (below_regrown wo dd os).size; have := hbr.size; omega)⟩ ⟨_, _, _, _, _, _, rfl, hRep2.below ((below_regrown wo dd os).mono hbr.size) (by have := (below_regrown wo dd os).size; have := hbr.size; omega)⟩)
        have e1 : (stepsOf p).drop j = stepOf p[j] :: (stepsOf p).drop (j + 1) := by rw [List.drop_eq_getElem_cons (by rw [LP.out]; exact hjn)]; simp [stepsOf]
        have e2 : (stepsOf q).drop j = stepOf q[j] :: (stepsOf q).drop (j + 1) := by rw [List.drop_eq_getElem_cons (by rw [LQ.out]; exact hjm)]; simp [stepsOf]
        rw [e1, e2, apartT_cons] at hap
        clear hJ hJ2 hRep hRep2 e1 e2
        have r0 := cell_regrown y0
        have r1 := cell_regrown y1
        have r2 := cell_regrown y2
        have r3 := cell_regrown y3
        have r4 := cell_regrown y4
        have r5 := cell_regrown y5
        have s0 := cell_regrown z0
        have s1 := cell_regrown z1
        have s2 := cell_regrown z2
        have s3 := cell_regrown z3
        have s4 := cell_regrown z4
        have s5 := cell_regrown z5
        clear y0 y1 y2 y3 y4 y5 z0 z1 z2 z3 z4 z5
        by_cases heq : stepOf p[j] = stepOf q[j]
        · rw [decide_eq_true heq] at CI
          rw [if_pos heq] at hap
          have HAP := Lib.hid hap
          clear hap heq
          go_upto_region 4 with (fail)
          refine wp_region_quiet_below (by kernel_rfl) (by kernel_rfl) ?_
          repeat (go_big_quiet_step (first | (go_at_call 40; exact Calls.regrown_of (CI.out _ _))))
          refine wpQuiet_nil ?_
          intro w' hw'
          obtain ⟨⟨dq, osq⟩, rfl⟩ := hw'
          have hb4 : Below w.heap.size w (Sort.grow (redrawn wo dq) osq) := hbr.trans ((below_regrown wo dq osq).mono hbr.size)
          clear r0 r1 r2 r3 r4 r5 s0 s1 s2 s3 s4 s5
          go_wp2_with fail
          exact ⟨⟨j + 1, by omega, by omega, by go_num, HAP.out, hb4⟩, by simp [intOf]; omega⟩
        · rw [decide_eq_false heq] at CI
          rw [if_neg heq] at hap
          have HAP := Lib.hid hap
          clear hap heq
          go_upto_region 4 with (fail)
          refine wp_region_quiet_below (by kernel_rfl) (by kernel_rfl) ?_
          repeat (go_big_quiet_step (first | (go_at_call 40; exact Calls.regrown_of (CI.out _ _))))
          refine wpQuiet_nil ?_
          intro w' hw'
          obtain ⟨⟨dq, osq⟩, rfl⟩ := hw'
          have hb4 : Below w.heap.size w (Sort.grow (redrawn wo dq) osq) := hbr.trans ((below_regrown wo dq osq).mono hbr.size)
          clear r0 r1 r2 r3 r4 r5 s0 s1 s2 s3 s4 s5
          go_wp2_with fail
          go_ret
          exact ⟨by rw [HAP.out]; rfl, hb4⟩
      · have e2 : (stepsOf q).drop j = [] := List.drop_of_length_le (by rw [LQ.out]; omega)
        rw [e2] at hap
        have HAP := Lib.hid (show apartT (stepsOf p) (stepsOf q) = false by rw [hap]; cases (stepsOf p).drop j <;> rfl)
        clear hap e2
        go_wp2_with fail
        go_ret
        exact ⟨by rw [HAP.out]; rfl, hbr⟩
    · have e2 : (stepsOf p).drop j = [] := List.drop_of_length_le (by rw [LP.out]; omega)
      rw [e2] at hap
      have HAP := Lib.hid (show apartT (stepsOf p) (stepsOf q) = false by rw [hap]; rfl)
      clear hap e2
      go_wp2_with fail
      go_ret
      exact ⟨by rw [HAP.out]; rfl, hbr⟩
end Go.Proofs.YtmjegeipnaalnaaGreatDoor
