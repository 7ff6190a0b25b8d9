/- FnContains: its walk. -/
import Derived.Test.YtmjegeipnaalnaaGreatDoorImplC
import Derived.Test.YtmjegeipnaalnaaGreatDoorCalled
import Derived.Lib.QuietBelow
namespace Go.Proofs.YtmjegeipnaalnaaGreatDoor
open Go.RowKit

theorem JVal.rep {w : World} {B : Nat} {v : JV} {c0 c1 c2 c3 c4 c5 : Value} (h : JVal w B v (.agg #[c0, c1, c2, c3, c4, c5])) : JRep w B v [c0, c1, c2, c3, c4, c5] := by
  obtain ⟨d0, d1, d2, d3, d4, d5, e, hr⟩ := h
  simp only [Value.agg.injEq, Array.mk.injEq, List.cons.injEq, and_true] at e
  obtain ⟨rfl, rfl, rfl, rfl, rfl, rfl⟩ := e
  exact hr
theorem six_at {w : World} {g o : Nat} {cs : Array Value} {l : List Value} (T : TypeId) (h : w.heap[g]? = some (.cells cs T (0, 0))) (hl : ∀ j, j < 6 → cs[o + j]? = l[j]?) : ∀ j, j < 6 → w.cell? ⟨g, o + j, none⟩ = l[j]? := by
  intro j hj
  rw [← hl j hj]
  simp [World.cell?, h]
theorem jcells_one {w : World} {B g : Nat} {v : JV} {c0 c1 c2 c3 c4 c5 : Value} (h : w.heap[g]? = some (.cells #[c0, c1, c2, c3, c4, c5] 26)) (hr : JRep w B v [c0, c1, c2, c3, c4, c5]) (hg : g < B) : JCells w B [v] g 0 := by
  unfold JCells
  refine ⟨hg, ⟨_, hr, six_at 26 h fun j hj => ?_⟩, by unfold JCells; trivial⟩
  rcases j with _ | _ | _ | _ | _ | _ | j <;> first | rfl | omega
theorem jcells_two {w : World} {B g : Nat} {v u : JV} {c0 c1 c2 c3 c4 c5 d0 d1 d2 d3 d4 d5 : Value} (h : w.heap[g]? = some (.cells #[c0, c1, c2, c3, c4, c5, d0, d1, d2, d3, d4, d5] 26)) (hr : JRep w B v [c0, c1, c2, c3, c4, c5]) (hr2 : JRep w B u [d0, d1, d2, d3, d4, d5]) (hg : g < B) : JCells w B [v, u] g 0 := by
  unfold JCells
  refine ⟨hg, ⟨_, hr, six_at 26 h fun j hj => ?_⟩, ?_⟩
  · rcases j with _ | _ | _ | _ | _ | _ | j <;> first | rfl | omega
  · unfold JCells
    refine ⟨hg, ⟨_, hr2, six_at 26 h fun j hj => ?_⟩, by unfold JCells; trivial⟩
    rcases j with _ | _ | _ | _ | _ | _ | j <;> first | rfl | omega

set_option maxRecDepth 100000 in
set_option maxHeartbeats 8000000 in
theorem Contains_walk (a b : JV) (x y : Value) (w : World) (hx : JVal w w.heap.size a x) (hy : JVal w w.heap.size b y) (hT : Tabs w) :
    Calls Tryz.prog 3 #[x, y] w fun e w' => e = .returned (.bool true) ∧ Below w.heap.size w w' := by
  have HTA := Lib.hid (fun (ha : fitB a = true) => (good_of_fit ha))
  have HTB := Lib.hid (fun (hb : fitB b = true) => (good_of_fit hb))
  have HCW := Lib.hid (fun W vx ba h1 h2 g1 g2 => Call_walk a b vx ba W h1 h2 g1 g2)
  have HIC := Lib.hid (fun W vx vy h1 h2 g1 g2 hk => ImplContains_walk a b vx vy W h1 h2 g1 g2 hk)
  have HZ1 := Lib.hid (fun W h => zzFits1_walk a x W h)
  have HZ2 := Lib.hid (fun W h => zzFits1_walk b y W h)
  have HFT := Lib.hid (fun W ba h1 h2 => fits_walk [a, b] ba 2 2 W rfl (by decide) h1 h2)
  obtain ⟨ka, ha, ta, la, ksa, vsa⟩ := a
  obtain ⟨kb, hb', tb, lb, ksb, vsb⟩ := b
  obtain ⟨va1, va2, va3, rfl, _, _, _, ⟨A1, c1, rfl, _⟩, ⟨A2, c2, rfl, _⟩, ⟨A3, c3, rfl, _⟩⟩ := hx.laid
  obtain ⟨vb1, vb2, vb3, rfl, _, _, _, ⟨B1, e1, rfl, _⟩, ⟨B2, e2, rfl, _⟩, ⟨B3, e3, rfl, _⟩⟩ := hy.laid
  generalize la.length = n1 at *
  generalize ksa.length = n2 at *
  generalize vsa.length = n3 at *
  generalize lb.length = m1 at *
  generalize ksb.length = m2 at *
  generalize vsb.length = m3 at *
  obtain ⟨hA, hB⟩ := two_new w (.cells #[.int .i64 ka, .int .i64 ha, .string ta, .slice A1 n1 c1, .slice A2 n2 c2, .slice A3 n3 c3] 26) (.cells #[.int .i64 kb, .int .i64 hb', .string tb, .slice B1 m1 e1, .slice B2 m2 e2, .slice B3 m3 e3] 26)
  have hw := ((Below.refl w.heap.size w).alloc (Nat.le_refl _) (.cells #[.int .i64 ka, .int .i64 ha, .string ta, .slice A1 n1 c1, .slice A2 n2 c2, .slice A3 n3 c3] 26)).alloc (by simp) (.cells #[.int .i64 kb, .int .i64 hb', .string tb, .slice B1 m1 e1, .slice B2 m2 e2, .slice B3 m3 e3] 26)
  have hsz : w.heap.size + 2 ≤ ((w.alloc (.cells #[.int .i64 ka, .int .i64 ha, .string ta, .slice A1 n1 c1, .slice A2 n2 c2, .slice A3 n3 c3] 26)).alloc (.cells #[.int .i64 kb, .int .i64 hb', .string tb, .slice B1 m1 e1, .slice B2 m2 e2, .slice B3 m3 e3] 26)).heap.size := by simp
  go_enter Tryz.func3, Tryz.ntmps3
  go_upto_region 1 with (fail)
  generalize ((w.alloc (.cells #[.int .i64 ka, .int .i64 ha, .string ta, .slice A1 n1 c1, .slice A2 n2 c2, .slice A3 n3 c3] 26)).alloc (.cells #[.int .i64 kb, .int .i64 hb', .string tb, .slice B1 m1 e1, .slice B2 m2 e2, .slice B3 m3 e3] 26)) = w0 at *
  obtain ⟨p0, p1, p2, p3, p4, p5⟩ := box6 hA
  go_wp2_with fail
  refine (HZ1.out w0 (hx.below hw (by omega))).mono ?_
  rintro e w1 ⟨z1, rfl, hb⟩
  replace hA := kept_below hb (by omega) hA
  replace hB := kept_below hb (by omega) hB
  replace hw := hw.trans (hb.mono (by omega))
  replace hsz : w.heap.size + 2 ≤ w1.heap.size := by have := hb.size; omega
  clear hb p0 p1 p2 p3 p4 p5 HZ1
  cases z1
  · go_wp2_with fail
    go_ret
    exact ⟨rfl, hw⟩
  obtain ⟨q0, q1, q2, q3, q4, q5⟩ := box6 hB
  go_wp2_with fail
  refine (HZ2.out w1 (hy.below hw (by omega))).mono ?_
  rintro e w2 ⟨z1, rfl, hb⟩
  replace hA := kept_below hb (by omega) hA
  replace hB := kept_below hb (by omega) hB
  replace hw := hw.trans (hb.mono (by omega))
  replace hsz : w.heap.size + 2 ≤ w2.heap.size := by have := hb.size; omega
  clear hb q0 q1 q2 q3 q4 q5 HZ2
  cases z1
  · go_wp2_with fail
    go_ret
    exact ⟨rfl, hw⟩
  go_upto_region 3 with (fail)
  obtain ⟨p0, p1, p2, p3, p4, p5⟩ := box6 hA
  obtain ⟨q0, q1, q2, q3, q4, q5⟩ := box6 hB
  go_wp2_with fail
  have hg := heap_alloc_new w2 (.cells #[.int .i64 ka, .int .i64 ha, .string ta, .slice A1 n1 c1, .slice A2 n2 c2, .slice A3 n3 c3, .int .i64 kb, .int .i64 hb', .string tb, .slice B1 m1 e1, .slice B2 m2 e2, .slice B3 m3 e3] 26)
  have hb := (Below.refl w2.heap.size w2).alloc (Nat.le_refl _) (.cells #[.int .i64 ka, .int .i64 ha, .string ta, .slice A1 n1 c1, .slice A2 n2 c2, .slice A3 n3 c3, .int .i64 kb, .int .i64 hb', .string tb, .slice B1 m1 e1, .slice B2 m2 e2, .slice B3 m3 e3] 26)
  have hsz3 : w2.heap.size + 1 ≤ (w2.alloc (.cells #[.int .i64 ka, .int .i64 ha, .string ta, .slice A1 n1 c1, .slice A2 n2 c2, .slice A3 n3 c3, .int .i64 kb, .int .i64 hb', .string tb, .slice B1 m1 e1, .slice B2 m2 e2, .slice B3 m3 e3] 26)).heap.size := by simp
  generalize w2.alloc (.cells #[.int .i64 ka, .int .i64 ha, .string ta, .slice A1 n1 c1, .slice A2 n2 c2, .slice A3 n3 c3, .int .i64 kb, .int .i64 hb', .string tb, .slice B1 m1 e1, .slice B2 m2 e2, .slice B3 m3 e3] 26) = w3 at *
  replace hA := kept_below hb (by omega) hA
  replace hB := kept_below hb (by omega) hB
  replace hw := hw.trans (hb.mono (by omega))
  replace hsz : w.heap.size + 2 ≤ w3.heap.size := by omega
  refine (HFT.out w3 w2.heap.size (jcells_two hg ((hx.below hw (show w.heap.size ≤ w3.heap.size by omega)).rep) ((hy.below hw (show w.heap.size ≤ w3.heap.size by omega)).rep) (by omega)) (hT.at' hw (Nat.le_refl _))).mono ?_
  rintro e w4 ⟨rfl, hb⟩
  replace hA := kept_below hb (by omega) hA
  replace hB := kept_below hb (by omega) hB
  replace hw := hw.trans (hb.mono (by omega))
  replace hsz : w.heap.size + 2 ≤ w4.heap.size := by have := hb.size; omega
  clear hb hg hsz3 p0 p1 p2 p3 p4 p5 q0 q1 q2 q3 q4 q5 HFT hT
  cases hfa : fitB (.mk ka ha ta la ksa vsa)
  · simp only [List.all_cons, hfa, Bool.false_and]
    clear hfa
    go_wp2_with fail
    go_ret
    exact ⟨rfl, hw⟩
  cases hfb : fitB (.mk kb hb' tb lb ksb vsb)
  · simp only [List.all_cons, hfa, hfb, Bool.false_and, Bool.and_false]
    clear hfa hfb
    go_wp2_with fail
    go_ret
    exact ⟨rfl, hw⟩
  simp only [List.all_cons, List.all_nil, hfa, hfb, Bool.true_and]
  have GA := Lib.hid (HTA.out hfa)
  have GB := Lib.hid (HTB.out hfb)
  clear hfa hfb HTA HTB
  go_upto_region 5 with (fail)
  obtain ⟨p0, p1, p2, p3, p4, p5⟩ := box6 hA
  obtain ⟨q0, q1, q2, q3, q4, q5⟩ := box6 hB
  go_wp2_with fail
  have hg := heap_alloc_new w4 (.cells #[.int .i64 kb, .int .i64 hb', .string tb, .slice B1 m1 e1, .slice B2 m2 e2, .slice B3 m3 e3] 26)
  have hb := (Below.refl w4.heap.size w4).alloc (Nat.le_refl _) (.cells #[.int .i64 kb, .int .i64 hb', .string tb, .slice B1 m1 e1, .slice B2 m2 e2, .slice B3 m3 e3] 26)
  have hsz3 : w4.heap.size + 1 ≤ (w4.alloc (.cells #[.int .i64 kb, .int .i64 hb', .string tb, .slice B1 m1 e1, .slice B2 m2 e2, .slice B3 m3 e3] 26)).heap.size := by simp
  generalize w4.alloc (.cells #[.int .i64 kb, .int .i64 hb', .string tb, .slice B1 m1 e1, .slice B2 m2 e2, .slice B3 m3 e3] 26) = w5 at *
  replace hA := kept_below hb (by omega) hA
  replace hB := kept_below hb (by omega) hB
  replace hw := hw.trans (hb.mono (by omega))
  replace hsz : w.heap.size + 2 ≤ w5.heap.size := by omega
  refine (HCW.out w5 (.agg #[.int .i64 ka, .int .i64 ha, .string ta, .slice A1 n1 c1, .slice A2 n2 c2, .slice A3 n3 c3]) w4.heap.size (hx.below hw (show w.heap.size ≤ w5.heap.size by omega)) (jcells_one hg ((hy.below hw (show w.heap.size ≤ w5.heap.size by omega)).rep) (by omega)) GA.out GB.out).mono ?_
  rintro e w6 ⟨rfl, hb⟩
  replace hA := kept_below hb (by omega) hA
  replace hB := kept_below hb (by omega) hB
  replace hw := hw.trans (hb.mono (by omega))
  replace hsz : w.heap.size + 2 ≤ w6.heap.size := by have := hb.size; omega
  clear hb hg hsz3 p0 p1 p2 p3 p4 p5 q0 q1 q2 q3 q4 q5 HCW
  by_cases hk : ka = kb
  · have hsk : saidK (.mk ka ha ta la ksa vsa) (.mk kb hb' tb lb ksb vsb) = truthK (holdsV (.mk ka ha ta la ksa vsa) (.mk kb hb' tb lb ksb vsb)) := if_pos hk
    have hsh : saidHow (.mk ka ha ta la ksa vsa) (.mk kb hb' tb lb ksb vsb) = 0 := if_pos hk
    rw [hsk, hsh]
    have HKK := Lib.hid hk
    obtain ⟨z, hz⟩ : ∃ z, truthK (holdsV (.mk ka ha ta la ksa vsa) (.mk kb hb' tb lb ksb vsb)) = z := ⟨_, rfl⟩
    have hz0 : 0 ≤ z ∧ z ≤ 2 := by rw [← hz]; unfold truthK; split <;> omega
    rw [hz]
    have HZZ := Lib.hid hz
    clear hsk hsh hk hz
    unfold kV
    go_upto_region 6 with (fail)
    have hC := heap_alloc_new w6 (.cells #[.int .i64 z, .int .i64 0, .string ⟨#[]⟩, .slice none 0 0, .slice none 0 0, .slice none 0 0] 26)
    have hb := (Below.refl w6.heap.size w6).alloc (Nat.le_refl _) (.cells #[.int .i64 z, .int .i64 0, .string ⟨#[]⟩, .slice none 0 0, .slice none 0 0, .slice none 0 0] 26)
    have hsz3 : w6.heap.size + 1 ≤ (w6.alloc (.cells #[.int .i64 z, .int .i64 0, .string ⟨#[]⟩, .slice none 0 0, .slice none 0 0, .slice none 0 0] 26)).heap.size := by simp
    generalize w6.alloc (.cells #[.int .i64 z, .int .i64 0, .string ⟨#[]⟩, .slice none 0 0, .slice none 0 0, .slice none 0 0] 26) = w7 at *
    replace hA := kept_below hb (by omega) hA
    replace hB := kept_below hb (by omega) hB
    replace hw := hw.trans (hb.mono (by omega))
    replace hsz : w.heap.size + 2 ≤ w7.heap.size := by omega
    obtain ⟨p0, p1, p2, p3, p4, p5⟩ := box6 hA
    obtain ⟨q0, q1, q2, q3, q4, q5⟩ := box6 hB
    obtain ⟨x0, x1, x2, x3, x4, x5⟩ := box6 hC
    have r0 := cell_regrown p0
    have r1 := cell_regrown p1
    have r2 := cell_regrown p2
    have r3 := cell_regrown p3
    have r4 := cell_regrown p4
    have r5 := cell_regrown p5
    have s0 := cell_regrown q0
    have s1 := cell_regrown q1
    have s2 := cell_regrown q2
    have s3 := cell_regrown q3
    have s4 := cell_regrown q4
    have s5 := cell_regrown q5
    have t0 := cell_regrown x0
    have t1 := cell_regrown x1
    have t2 := cell_regrown x2
    have t3 := cell_regrown x3
    have t4 := cell_regrown x4
    have t5 := cell_regrown x5
    have cI := fun d os => HIC.out (Sort.grow (redrawn w7 d) os) (.agg #[.int .i64 ka, .int .i64 ha, .string ta, .slice A1 n1 c1, .slice A2 n2 c2, .slice A3 n3 c3]) (.agg #[.int .i64 kb, .int .i64 hb', .string tb, .slice B1 m1 e1, .slice B2 m2 e2, .slice B3 m3 e3])
      (hx.below (hw.trans ((below_regrown w7 d os).mono (by omega))) (by have := (below_regrown w7 d os).size; omega)) (hy.below (hw.trans ((below_regrown w7 d os).mono (by omega))) (by have := (below_regrown w7 d os).size; omega)) GA.out GB.out HKK.out
    rw [HZZ.out] at cI
    have cT := fun W => told_kind z W hz0.1 hz0.2
    unfold kR at cI cT
    unfold kV at cT
    have CI := Lib.hid cI
    have CT := Lib.hid cT
    clear cI cT hA hB hC hx hy hb hz0 p0 p1 p2 p3 p4 p5 q0 q1 q2 q3 q4 q5 x0 x1 x2 x3 x4 x5
    go_upto_region 8 with (fail)
    refine wp_region_quiet_below (by kernel_rfl) (by kernel_rfl) ?_
    repeat (go_big_quiet_step (first
      | (go_at_call 11; exact Calls.regrown_of (CI.out _ _))
      | (go_at_call 10; exact Calls.regrown_of (CT.out _))))
    refine wpQuiet_nil ?_
    intro w' hw'
    obtain ⟨⟨dq, osq⟩, rfl⟩ := hw'
    go_wp2
    go_ret
    exact ⟨by first | rfl | simp, hw.trans ((below_regrown w7 dq osq).mono (by omega))⟩
  · have hsh : saidHow (.mk ka ha ta la ksa vsa) (.mk kb hb' tb lb ksb vsb) = 2 := if_neg hk
    rw [hsh]
    clear hsh hk
    unfold kV
    generalize saidK (.mk ka ha ta la ksa vsa) (.mk kb hb' tb lb ksb vsb) = z
    have HB := Lib.hid (hw.alloc (show w.heap.size ≤ w6.heap.size by omega) (.cells #[.int .i64 z, .int .i64 0, .string ⟨#[]⟩, .slice none 0 0, .slice none 0 0, .slice none 0 0] 26))
    go_wp2_with fail
    go_ret
    exact ⟨rfl, HB.out⟩
end Go.Proofs.YtmjegeipnaalnaaGreatDoor
