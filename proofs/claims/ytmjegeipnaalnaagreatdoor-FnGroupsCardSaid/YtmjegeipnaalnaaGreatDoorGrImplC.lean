/- The thin package's containment, and the guard over several values: the walks. The thin package's setpath and getpath: the walks. -/
import Derived.Test.YtmjegeipnaalnaaGreatDoorGrHoldsM
import Derived.Test.YtmjegeipnaalnaaGreatDoorGrGetP
import Derived.Test.YtmjegeipnaalnaaGreatDoorGrToGoA

/- The thin package's containment, and the guard over several values: the walks. -/
namespace Go.Proofs.YtmjegeipnaalnaaGreatDoor
open Go.RowKit

theorem Tabs.at' {w w' : World} {B : Nat} (h : Tabs w) (hb : Below B w w') (hB : w.heap.size ≤ B) : Tabs w' := h.grown (r := none) (by simp) (by simp) (grownBy_below (hb.mono hB) none)

set_option maxRecDepth 100000 in
set_option maxHeartbeats 4000000 in
theorem fits_walk (l : List JV) (b n c : Nat) (w : World) (hn : l.length = n) (hnm : n ≤ 1000) (hJ : JCells w w.heap.size l b 0) (hT : Tabs w) :
    Calls Tryz.prog 8 #[.slice (some ⟨b, 0, none⟩) n c] w fun e w' => e = .returned (.bool (l.all fitB)) ∧ Below w.heap.size w w' := by
  have HN := Lib.hid hn
  have HJ := Lib.hid hJ
  have HT := Lib.hid hT
  clear hn hJ hT
  go_enter Tryz.func8, Tryz.ntmps8
  go_wp2_with fail
  go_loopw [7] (fun i wr => ∃ j : Nat, j ≤ n ∧ i = .int .i64 j ∧ (l.take j).all fitB = true ∧ Below w.heap.size w wr) (fun i _ => n - (intOf i).toNat)
  case atStart => exact ⟨0, Nat.zero_le _, rfl, by simp, Below.refl _ _⟩
  case round =>
    obtain ⟨j, hj, rfl, hall, hbr⟩ := hrel
    obtain ⟨wo, rfl⟩ : ∃ wo, wo = wr := ⟨_, rfl⟩
    have hsw : w.heap.size ≤ wo.heap.size := hbr.size
    by_cases hjn : j < n
    · have hjl : j < l.length := by rw [HN.out]; exact hjn
      obtain ⟨hb2, d0, d1, d2, d3, d4, d5, hRep, y0, y1, y2, y3, y4, y5⟩ := (JCells.below hbr (Nat.le_refl _) l b 0 HJ.out).at6 j hjl
      obtain ⟨k1, h1, t1, A1, n1, m1, A2, n2, m2, A4, n3, m3, rfl, rfl, rfl, rfl, rfl, rfl⟩ := hRep.shape
      simp only [Nat.zero_add] at y0 y1 y2 y3 y4 y5
      have hnext : (l.take (j + 1)).all fitB = fitB l[j] := by rw [List.take_succ_eq_append_getElem hjl, List.all_append, hall]; simp
      have hstop : fitB l[j] = false → l.all fitB = false := fun e => by
        cases hc : l.all fitB with
        | false => rfl
        | true => have := List.all_eq_true.1 hc _ (List.getElem_mem hjl); rw [e] at this; cases this
      have HNX := Lib.hid hnext
      have HST := Lib.hid hstop
      clear hnext hstop hall
      generalize l[j] = y at *
      go_upto_region 4 with (fail)
      have hE := heap_alloc_new wo (.cells #[.int .i64 k1, .int .i64 h1, .string t1, .slice A1 n1 m1, .slice A2 n2 m2, .slice A4 n3 m3] 26)
      have hbz := (Below.refl wo.heap.size wo).alloc (Nat.le_refl _) (.cells #[.int .i64 k1, .int .i64 h1, .string t1, .slice A1 n1 m1, .slice A2 n2 m2, .slice A4 n3 m3] 26)
      have hszz : wo.heap.size + 1 ≤ (wo.alloc (.cells #[.int .i64 k1, .int .i64 h1, .string t1, .slice A1 n1 m1, .slice A2 n2 m2, .slice A4 n3 m3] 26)).heap.size := by simp
      generalize wo.alloc (.cells #[.int .i64 k1, .int .i64 h1, .string t1, .slice A1 n1 m1, .slice A2 n2 m2, .slice A4 n3 m3] 26) = wz at *
      obtain ⟨z0, z1, z2, z3, z4, z5⟩ := box6 hE
      have hbwz : Below w.heap.size w wz := hbr.trans (hbz.mono hsw)
      have c := Fit_walk y (.agg #[.int .i64 k1, .int .i64 h1, .string t1, .slice A1 n1 m1, .slice A2 n2 m2, .slice A4 n3 m3]) wz ⟨_, _, _, _, _, _, rfl, hRep.below (hbz.mono hsw) (by omega)⟩ (HT.out.at' hbwz (Nat.le_refl _))
      obtain ⟨z, hz⟩ : ∃ z, fitB y = z := ⟨_, rfl⟩
      rw [hz] at c
      have HZ := Lib.hid hz
      have C := Lib.hid c
      clear c hRep hz
      go_wp2_with fail
      refine C.out.mono ?_
      rintro e wc ⟨rfl, hbc⟩
      have hbwc : Below w.heap.size w wc := hbwz.trans (hbc.mono (by omega))
      cases z with
      | true =>
        go_wp2_with fail
        exact ⟨⟨j + 1, by omega, by go_num, by rw [HNX.out, HZ.out], hbwc⟩, by simp [intOf]; omega⟩
      | false =>
        have HF := Lib.hid (HST.out HZ.out)
        go_wp2_with fail
        go_ret
        exact ⟨by rw [HF.out]; rfl, hbwc⟩
    · have e : l.take j = l := List.take_of_length_le (by rw [HN.out]; omega)
      rw [e] at hall
      have HA := Lib.hid hall
      clear hall
      go_wp2_with fail
      go_ret
      exact ⟨by rw [HA.out]; rfl, hbr⟩

set_option maxRecDepth 100000 in
theorem zzContains_door (l r : Value) (w : World) (R : Value → World → Prop) (h : Calls Tryz.prog 84 #[l, r] w fun e w' => ∃ v, e = .returned v ∧ R v w') :
    Calls Tryz.prog 43 #[l, r] w fun e w' => ∃ v, e = .returned v ∧ R v w' := by
  have C := Lib.hid h
  clear h
  go_enter Tryz.func43, Tryz.ntmps43
  go_wp2_with fail
  refine C.out.mono ?_
  rintro e w1 ⟨v, rfl, hr⟩
  go_wp2_with fail
  go_ret
  exact ⟨_, rfl, hr⟩

set_option maxRecDepth 100000 in
set_option maxHeartbeats 8000000 in
theorem ImplContains_walk (x y : JV) (vx vy : Value) (w : World) (hx : JVal w w.heap.size x vx) (hy : JVal w w.heap.size y vy) (gx : Good x) (gy : Good y) (hk : x.kind = y.kind) :
    Calls Tryz.prog 11 #[vx, vy] w fun e w' => e = .returned (kR (truthK (holdsV x y))) ∧ Below w.heap.size w w' := by
  have HX := Lib.hid (fun W vx a => toGo_all x vx W a gx)
  have HY := Lib.hid (fun W vy a => toGo_all y vy W a gy)
  have HC := Lib.hid (fun W l r a b => con_all y x l r W a b gx gy)
  have HK := Lib.hid hk
  obtain ⟨z, hz⟩ : ∃ z, truthK (holdsV x y) = z := ⟨_, rfl⟩
  have HZ := Lib.hid hz
  rw [hz]
  clear hz gx gy hk
  obtain ⟨k, h, t, l, ks, vs⟩ := x
  obtain ⟨k', h', t', l', ks', vs'⟩ := y
  obtain ⟨a0, a1, a2, rfl, _⟩ := hx.laid
  obtain ⟨b0, b1, b2, rfl, _⟩ := hy.laid
  obtain ⟨hA, hB, hC⟩ := three_new' w (.cells #[.int .i64 k, .int .i64 h, .string t, a0, a1, a2] 26) (.cells #[.int .i64 k', .int .i64 h', .string t', b0, b1, b2] 26) (.cells #[.int .i64 0, .int .i64 0, .string ⟨#[]⟩, .slice none 0 0, .slice none 0 0, .slice none 0 0, .int .i64 0] 34)
  have hw := (((Below.refl w.heap.size w).alloc (Nat.le_refl _) (.cells #[.int .i64 k, .int .i64 h, .string t, a0, a1, a2] 26)).alloc (by simp) (.cells #[.int .i64 k', .int .i64 h', .string t', b0, b1, b2] 26)).alloc (by simp; omega) (.cells #[.int .i64 0, .int .i64 0, .string ⟨#[]⟩, .slice none 0 0, .slice none 0 0, .slice none 0 0, .int .i64 0] 34)
  have hsz : w.heap.size + 2 < (((w.alloc (.cells #[.int .i64 k, .int .i64 h, .string t, a0, a1, a2] 26)).alloc (.cells #[.int .i64 k', .int .i64 h', .string t', b0, b1, b2] 26)).alloc (.cells #[.int .i64 0, .int .i64 0, .string ⟨#[]⟩, .slice none 0 0, .slice none 0 0, .slice none 0 0, .int .i64 0] 34)).heap.size := by simp
  unfold kR
  go_enter Tryz.func11, Tryz.ntmps11
  go_upto_region 1 with (fail)
  generalize (((w.alloc (.cells #[.int .i64 k, .int .i64 h, .string t, a0, a1, a2] 26)).alloc (.cells #[.int .i64 k', .int .i64 h', .string t', b0, b1, b2] 26)).alloc (.cells #[.int .i64 0, .int .i64 0, .string ⟨#[]⟩, .slice none 0 0, .slice none 0 0, .slice none 0 0, .int .i64 0] 34)) = w1 at *
  obtain ⟨p0, p1, p2, p3, p4, p5⟩ := box6 hA
  go_wp2_with fail
  refine (HX.out w1 _ (hx.below hw (by omega))).mono ?_
  rintro e w2 ⟨r1, rfl, hg1, hb⟩
  replace hB := kept_below hb (by omega) hB
  replace hC := kept_below hb (by omega) hC
  replace hw := hw.trans (hb.mono (by omega))
  replace hsz : w.heap.size + 2 < w2.heap.size := by have := hb.size; omega
  clear hb p0 p1 p2 p3 p4 p5 HX hA
  obtain ⟨q0, q1, q2, q3, q4, q5⟩ := box6 hB
  go_wp2_with fail
  refine (HY.out w2 _ (hy.below hw (by omega))).mono ?_
  rintro e w3 ⟨r2, rfl, hg2, hb⟩
  replace hC := kept_below hb (by omega) hC
  replace hw := hw.trans (hb.mono (by omega))
  have hg1' : GRep w3 0 w3.heap.size (.mk k h t l ks vs) r1 := GRep.mono (fun k _ hk2 => hb.block k hk2) (Nat.zero_le _) hb.size _ _ hg1
  have hg2' : GRep w3 0 w3.heap.size (.mk k' h' t' l' ks' vs') r2 := GRep.mono (fun _ _ _ => rfl) (Nat.zero_le _) (Nat.le_refl _) _ _ hg2
  replace hsz : w.heap.size + 2 < w3.heap.size := by have := hb.size; omega
  have C3 := Lib.hid (zzContains_door r1 r2 w3 _ (HC.out w3 r1 r2 hg1' hg2'))
  clear hb q0 q1 q2 q3 q4 q5 HY hB hg1 hg2 hg1' hg2' hx hy
  go_wp2_with fail
  refine C3.out.mono ?_
  rintro e w4 ⟨v, rfl, ha, hb⟩
  have hv : v = .iface 4 (.bool (holdsV (.mk k h t l ks vs) (.mk k' h' t' l' ks' vs'))) := by
    rcases ha with e | ⟨_, hne, _⟩
    · exact e
    · exact absurd HK.out hne
  subst hv
  replace hC := kept_below hb (by omega) hC
  replace hw := hw.trans (hb.mono (by omega))
  replace hsz : w.heap.size + 2 < w4.heap.size := by have := hb.size; omega
  clear hb ha C3 HC HK
  go_wp2_with fail
  refine (result_bool _ w4).mono ?_
  rintro e w5 ⟨rfl, hb⟩
  rw [HZ.out]
  replace hC := kept_below hb (by omega) hC
  replace hw := hw.trans (hb.mono (by omega))
  replace hsz : w.heap.size + 2 < w5.heap.size := by have := hb.size; omega
  clear hb HZ
  obtain ⟨x0, x1, x2, x3, x4, x5, x6⟩ := box7 hC
  obtain ⟨f0, f1, f2, f3, f4, f5, f6⟩ := frozen7 hC
  have HB := Lib.hid (below_set7 hw (Nat.le_add_right _ 2) (.int .i64 z) (.int .i64 0) (.string ⟨#[]⟩) (.slice none 0 0) (.slice none 0 0) (.slice none 0 0) (.int .i64 0))
  clear hw
  unfold kR
  go_wp2
  refine bodyPost_ret (v := .agg #[.int .i64 z, .int .i64 0, .string ⟨#[]⟩, .slice none 0 0, .slice none 0 0, .slice none 0 0, .int .i64 0]) (by simp [results, Tryz.results11, go_sem, *]) rfl ⟨rfl, ?_⟩
  exact HB.out
end Go.Proofs.YtmjegeipnaalnaaGreatDoor

/- The thin package's setpath and getpath: the walks. -/
namespace Go.Proofs.YtmjegeipnaalnaaGreatDoor
open Go.RowKit

theorem four_new (w : World) (A B C D : Obj) : ((((w.alloc A).alloc B).alloc C).alloc D).heap[w.heap.size]? = some A ∧ ((((w.alloc A).alloc B).alloc C).alloc D).heap[w.heap.size + 1]? = some B ∧ ((((w.alloc A).alloc B).alloc C).alloc D).heap[w.heap.size + 2]? = some C ∧ ((((w.alloc A).alloc B).alloc C).alloc D).heap[w.heap.size + 3]? = some D := by
  obtain ⟨h1, h2, h3⟩ := three_new w A B C
  have e3 : (((w.alloc A).alloc B).alloc C).heap.size = w.heap.size + 3 := by simp
  refine ⟨(heap_alloc_old _ _ (by omega)).trans h1, (heap_alloc_old _ _ (by omega)).trans h2, (heap_alloc_old _ _ (by omega)).trans h3, ?_⟩
  rw [← e3]; exact heap_alloc_new _ D
theorem steps_ok {l : List JV} (hs : straightB l = true) (hsh : ShortL l) : ∀ s ∈ stepsOf l, StepOk s := by
  unfold straightB at hs
  simp only [Bool.and_eq_true, decide_eq_true_eq, List.all_eq_true] at hs
  intro s hm
  unfold stepsOf at hm
  obtain ⟨v, hv, rfl⟩ := List.mem_map.1 hm
  exact step_ok (hs.1 v hv) (hsh.get v hv)
/-- How setting at a path ended: a value, or an error. -/
def SetR (ro : Option JV) (lo : Nat) (w' : World) (e : Ending) : Prop :=
  (∃ r c0 c1 c2 c3 c4 c5, ro = some r ∧ e = .returned (.agg #[c0, c1, c2, c3, c4, c5, .int .i64 0]) ∧ JRepS w' (fun b => lo ≤ b ∧ b < w'.heap.size) r [c0, c1, c2, c3, c4, c5]) ∨ (ro = none ∧ e = .returned errR)

set_option maxRecDepth 100000 in
set_option maxHeartbeats 8000000 in
theorem SetPath_walk (N : Nat) (hN : 100 ≤ N) (hN2 : N ≤ 1000) (v u : JV) (pl : List JV) (vx px ux : Value) (w : World) (hv : JVal w w.heap.size v vx) (hp : JVal w w.heap.size (listT pl) px) (hu : JVal w w.heap.size u ux) (gv : Good v) (gu : Good u) (gp : GoodL pl)
    (fv : Few N v) (fu : Few N u) (sv : Short v) (su : Short u) (sp : ShortL pl) (hst : straightB pl = true) :
    Calls Tryz.prog 27 #[vx, px, ux] w fun e w' => SetR (setT (stepsOf pl) u v) w.heap.size w' e ∧ Below w.heap.size w w' := by
  have HV := Lib.hid (fun W vx a => toGo_all v vx W a gv)
  have HP := Lib.hid (fun W vx a => toGo_all (listT pl) vx W a (good_list' gp))
  have HU := Lib.hid (fun W vx a => toGo_all u vx W a gu)
  have HPA := Lib.hid (fun W x (h : GRep W 0 W.heap.size (listT pl) x) => path_of h hst sp)
  have HGR := Lib.hid (fun r (h : setT (stepsOf pl) u v = some r) => (⟨good_set _ _ _ _ gv gu h, (few_set hN _ _ _ _ (steps_ok hst sp) gv fv fu h).le (by omega) r, short_set _ _ _ _ (steps_ok hst sp) sv su h⟩ : Good r ∧ Few 1002 r ∧ Short r))
  have HSD := Lib.hid (fun W xv xu A n c (h1 : PRep W 0 W.heap.size u xu) (h2 : PRep W 0 W.heap.size v xv) (h3 : PathV W (stepsOf pl) (.slice A n c)) => setpath_door (stepsOf pl) u v xu xv A n c W h1 h2 gv (fv.le hN2 v) h3)
  have GV := Lib.hid gv
  have GU := Lib.hid gu
  generalize hro : setT (stepsOf pl) u v = ro at *
  clear hro gv gu gp fv fu sv su sp hst
  obtain ⟨b0, b1, b2, epx, _⟩ := hp.laid
  have HPL := Lib.hid hp
  obtain ⟨k, h, t, l, ks, vs⟩ := v
  obtain ⟨k', h', t', l', ks', vs'⟩ := u
  obtain ⟨a0, a1, a2, rfl, _⟩ := hv.laid
  obtain ⟨d0, d1, d2, rfl, _⟩ := hu.laid
  clear hp
  subst epx
  obtain ⟨hA, hB, hC, hD⟩ := four_new w (.cells #[.int .i64 k, .int .i64 h, .string t, a0, a1, a2] 26) (.cells #[.int .i64 5, .int .i64 0, .string ⟨#[]⟩, b0, b1, b2] 26) (.cells #[.int .i64 k', .int .i64 h', .string t', d0, d1, d2] 26) (.cells #[.int .i64 0, .int .i64 0, .string ⟨#[]⟩, .slice none 0 0, .slice none 0 0, .slice none 0 0, .int .i64 0] 34)
  have hw := ((((Below.refl w.heap.size w).alloc (Nat.le_refl _) (.cells #[.int .i64 k, .int .i64 h, .string t, a0, a1, a2] 26)).alloc (by simp) (.cells #[.int .i64 5, .int .i64 0, .string ⟨#[]⟩, b0, b1, b2] 26)).alloc (by simp; omega) (.cells #[.int .i64 k', .int .i64 h', .string t', d0, d1, d2] 26)).alloc (by simp; omega) (.cells #[.int .i64 0, .int .i64 0, .string ⟨#[]⟩, .slice none 0 0, .slice none 0 0, .slice none 0 0, .int .i64 0] 34)
  have hsz : w.heap.size + 3 < ((((w.alloc (.cells #[.int .i64 k, .int .i64 h, .string t, a0, a1, a2] 26)).alloc (.cells #[.int .i64 5, .int .i64 0, .string ⟨#[]⟩, b0, b1, b2] 26)).alloc (.cells #[.int .i64 k', .int .i64 h', .string t', d0, d1, d2] 26)).alloc (.cells #[.int .i64 0, .int .i64 0, .string ⟨#[]⟩, .slice none 0 0, .slice none 0 0, .slice none 0 0, .int .i64 0] 34)).heap.size := by simp
  go_enter Tryz.func27, Tryz.ntmps27
  go_upto_region 1 with (fail)
  generalize ((((w.alloc (.cells #[.int .i64 k, .int .i64 h, .string t, a0, a1, a2] 26)).alloc (.cells #[.int .i64 5, .int .i64 0, .string ⟨#[]⟩, b0, b1, b2] 26)).alloc (.cells #[.int .i64 k', .int .i64 h', .string t', d0, d1, d2] 26)).alloc (.cells #[.int .i64 0, .int .i64 0, .string ⟨#[]⟩, .slice none 0 0, .slice none 0 0, .slice none 0 0, .int .i64 0] 34)) = w1 at *
  obtain ⟨p0, p1, p2, p3, p4, p5⟩ := box6 hA
  go_wp2_with fail
  refine (HV.out w1 _ (hv.below hw (by omega))).mono ?_
  rintro e w2 ⟨r1, rfl, hg1, hb⟩
  replace hB := kept_below hb (by omega) hB
  replace hC := kept_below hb (by omega) hC
  replace hD := kept_below hb (by omega) hD
  replace hw := hw.trans (hb.mono (by omega))
  replace hsz : w.heap.size + 3 < w2.heap.size := by have := hb.size; omega
  clear hb p0 p1 p2 p3 p4 p5 HV hA
  obtain ⟨p0, p1, p2, p3, p4, p5⟩ := box6 hB
  go_wp2_with fail
  refine (HP.out w2 _ (HPL.out.below hw (by omega))).mono ?_
  rintro e w3 ⟨r2, rfl, hg2, hb⟩
  replace hC := kept_below hb (by omega) hC
  replace hD := kept_below hb (by omega) hD
  replace hw := hw.trans (hb.mono (by omega))
  have hg1' : GRep w3 0 w3.heap.size (.mk k h t l ks vs) r1 := GRep.mono (fun k _ hk2 => hb.block k hk2) (Nat.zero_le _) hb.size _ _ hg1
  replace hsz : w.heap.size + 3 < w3.heap.size := by have := hb.size; omega
  clear hb p0 p1 p2 p3 p4 p5 HP hB hg1
  obtain ⟨p0, p1, p2, p3, p4, p5⟩ := box6 hC
  go_wp2_with fail
  refine (HU.out w3 _ (hu.below hw (by omega))).mono ?_
  rintro e w4 ⟨r3, rfl, hg3, hb⟩
  replace hD := kept_below hb (by omega) hD
  replace hw := hw.trans (hb.mono (by omega))
  have hg1'' : GRep w4 0 w4.heap.size (.mk k h t l ks vs) r1 := GRep.mono (fun k _ hk2 => hb.block k hk2) (Nat.zero_le _) hb.size _ _ hg1'
  have hg2' : GRep w4 0 w4.heap.size (listT pl) r2 := GRep.mono (fun k _ hk2 => hb.block k hk2) (Nat.zero_le _) hb.size _ _ hg2
  have hg3' : GRep w4 0 w4.heap.size (.mk k' h' t' l' ks' vs') r3 := GRep.mono (fun _ _ _ => rfl) (Nat.zero_le _) (Nat.le_refl _) _ _ hg3
  replace hsz : w.heap.size + 3 < w4.heap.size := by have := hb.size; omega
  obtain ⟨A, n, c, rfl, hpv⟩ := HPA.out w4 r2 hg2'
  have C5 := Lib.hid (HSD.out w4 r1 r3 A n c (GRep.toP _ _ GU.out hg3') (GRep.toP _ _ GV.out hg1'') hpv)
  clear hb p0 p1 p2 p3 p4 p5 HU hC hg1' hg1'' hg2' hg3' hg2 hg3 hpv HPA HSD GU GV hv hu HPL
  go_wp2_with fail
  refine C5.out.mono ?_
  rintro e w5 ⟨uu, rfl, hdr, hb⟩
  replace hD := kept_below hb (by omega) hD
  replace hw := hw.trans (hb.mono (by omega))
  replace hsz : w.heap.size + 3 < w5.heap.size := by have := hb.size; omega
  clear hb C5
  rcases hdr with ⟨r, rfl, hrep⟩ | ⟨rfl, T, aa, hT, rfl⟩
  · obtain ⟨gr, fr, sr⟩ := HGR.out r rfl
    have C6 := Lib.hid (result_val r uu w5 hrep gr fr sr)
    clear hrep gr fr sr HGR
    go_wp2_with fail
    refine C6.out.mono ?_
    rintro e w6 ⟨c0, c1, c2, c3, c4, c5, rfl, hrep, hb⟩
    obtain ⟨k1, h1, t1, A1, n1, m1, A2, n2, m2, A3, n3, m3, rfl, rfl, rfl, rfl, rfl, rfl⟩ := hrep.shape
    have hsz5 := hsz
    replace hD := kept_below hb (by omega) hD
    replace hw := hw.trans (hb.mono (by omega))
    replace hsz : w.heap.size + 3 < w6.heap.size := by have := hb.size; omega
    have HR := Lib.hid hrep
    clear hb hrep C6
    obtain ⟨x0, x1, x2, x3, x4, x5, x6⟩ := box7 hD
    obtain ⟨f0, f1, f2, f3, f4, f5, f6⟩ := frozen7 hD
    have HB := Lib.hid (below_set7 hw (Nat.le_add_right _ 3) (.int .i64 k1) (.int .i64 h1) (.string t1) (.slice A1 n1 m1) (.slice A2 n2 m2) (.slice A3 n3 m3) (.int .i64 0))
    clear hw
    go_wp2
    refine bodyPost_ret (v := .agg #[.int .i64 k1, .int .i64 h1, .string t1, .slice A1 n1 m1, .slice A2 n2 m2, .slice A3 n3 m3, .int .i64 0]) (by simp [results, Tryz.results27, go_sem, *]) rfl ⟨.inl ⟨r, _, _, _, _, _, _, rfl, rfl, ?_⟩, HB.out⟩
    exact JRepS.mono (fun b hb => set7_block _ _ _ _ _ _ _ _ _ b (by omega)) (fun b hb => ⟨by omega, by rw [set7_size]; omega⟩) r _ HR.out
  · clear HGR
    go_wp2_with fail
    refine (result_err T aa w5 hT).mono ?_
    rintro e w6 ⟨rfl, hb⟩
    replace hD := kept_below hb (by omega) hD
    replace hw := hw.trans (hb.mono (by omega))
    replace hsz : w.heap.size + 3 < w6.heap.size := by have := hb.size; omega
    clear hb hT
    obtain ⟨x0, x1, x2, x3, x4, x5, x6⟩ := box7 hD
    obtain ⟨f0, f1, f2, f3, f4, f5, f6⟩ := frozen7 hD
    have HB := Lib.hid (below_set7 hw (Nat.le_add_right _ 3) (.int .i64 0) (.int .i64 0) (.string ⟨#[]⟩) (.slice none 0 0) (.slice none 0 0) (.slice none 0 0) (.int .i64 1))
    clear hw
    unfold errR
    go_wp2
    refine bodyPost_ret (v := .agg #[.int .i64 0, .int .i64 0, .string ⟨#[]⟩, .slice none 0 0, .slice none 0 0, .slice none 0 0, .int .i64 1]) (by simp [results, Tryz.results27, go_sem, *]) rfl ⟨.inr ⟨rfl, rfl⟩, HB.out⟩

set_option maxRecDepth 100000 in
theorem getpath_door (p : List Step) (x v : JV) (vv : Value) (A : Option Addr) (n c : Nat) (w : World) (hv : PRep w 0 w.heap.size v vv) (hg : Good v) (hf : Few 1001 v) (hp : PathV w p (.slice A n c)) (hget : getT p v = some x) :
    Calls Tryz.prog 53 #[vv, .iface 80 (.slice A n c)] w fun e w' => ∃ u, e = .returned u ∧ PRep w' 0 w'.heap.size x u ∧ Below w.heap.size w w' := by
  have C := Lib.hid (getpath_walk p x v vv A n c w hv hg hf hp hget)
  clear hv hg hf hp hget
  go_enter Tryz.func53, Tryz.ntmps53
  go_wp2_with fail
  refine C.out.mono ?_
  rintro e w1 ⟨u, rfl, hr, hb⟩
  have HR := Lib.hid hr
  clear hr
  go_wp2_with fail
  go_ret
  exact ⟨u, rfl, HR.out, hb⟩

set_option maxRecDepth 100000 in
set_option maxHeartbeats 8000000 in
theorem GetPath_walk (v x : JV) (pl : List JV) (vx px : Value) (w : World) (hv : JVal w w.heap.size v vx) (hp : JVal w w.heap.size (listT pl) px) (gv : Good v) (gp : GoodL pl)
    (fv : Few 1001 v) (gx : Good x) (fx : Few 1002 x) (sx : Short x) (sp : ShortL pl) (hst : straightB pl = true) (hget : getT (stepsOf pl) v = some x) :
    Calls Tryz.prog 28 #[vx, px] w fun e w' => SetR (some x) w.heap.size w' e ∧ Below w.heap.size w w' := by
  have HV := Lib.hid (fun W vx a => toGo_all v vx W a gv)
  have HP := Lib.hid (fun W vx a => toGo_all (listT pl) vx W a (good_list' gp))
  have HPA := Lib.hid (fun W x (h : GRep W 0 W.heap.size (listT pl) x) => path_of h hst sp)
  have HSD := Lib.hid (fun W xv A n c (h2 : PRep W 0 W.heap.size v xv) (h3 : PathV W (stepsOf pl) (.slice A n c)) => getpath_door (stepsOf pl) x v xv A n c W h2 gv fv h3 hget)
  have HX := Lib.hid (⟨gx, fx, sx⟩ : Good x ∧ Few 1002 x ∧ Short x)
  have GV := Lib.hid gv
  clear gv gp fv gx fx sx sp hst hget
  obtain ⟨b0, b1, b2, epx, _⟩ := hp.laid
  have HPL := Lib.hid hp
  obtain ⟨k, h, t, l, ks, vs⟩ := v
  obtain ⟨a0, a1, a2, rfl, _⟩ := hv.laid
  clear hp
  subst epx
  obtain ⟨hA, hB, hD⟩ := three_new w (.cells #[.int .i64 k, .int .i64 h, .string t, a0, a1, a2] 26) (.cells #[.int .i64 5, .int .i64 0, .string ⟨#[]⟩, b0, b1, b2] 26) (.cells #[.int .i64 0, .int .i64 0, .string ⟨#[]⟩, .slice none 0 0, .slice none 0 0, .slice none 0 0, .int .i64 0] 34)
  have hw := (((Below.refl w.heap.size w).alloc (Nat.le_refl _) (.cells #[.int .i64 k, .int .i64 h, .string t, a0, a1, a2] 26)).alloc (by simp) (.cells #[.int .i64 5, .int .i64 0, .string ⟨#[]⟩, b0, b1, b2] 26)).alloc (by simp; omega) (.cells #[.int .i64 0, .int .i64 0, .string ⟨#[]⟩, .slice none 0 0, .slice none 0 0, .slice none 0 0, .int .i64 0] 34)
  have hsz : w.heap.size + 2 < (((w.alloc (.cells #[.int .i64 k, .int .i64 h, .string t, a0, a1, a2] 26)).alloc (.cells #[.int .i64 5, .int .i64 0, .string ⟨#[]⟩, b0, b1, b2] 26)).alloc (.cells #[.int .i64 0, .int .i64 0, .string ⟨#[]⟩, .slice none 0 0, .slice none 0 0, .slice none 0 0, .int .i64 0] 34)).heap.size := by simp
  go_enter Tryz.func28, Tryz.ntmps28
  go_upto_region 1 with (fail)
  generalize (((w.alloc (.cells #[.int .i64 k, .int .i64 h, .string t, a0, a1, a2] 26)).alloc (.cells #[.int .i64 5, .int .i64 0, .string ⟨#[]⟩, b0, b1, b2] 26)).alloc (.cells #[.int .i64 0, .int .i64 0, .string ⟨#[]⟩, .slice none 0 0, .slice none 0 0, .slice none 0 0, .int .i64 0] 34)) = w1 at *
  obtain ⟨p0, p1, p2, p3, p4, p5⟩ := box6 hA
  go_wp2_with fail
  refine (HV.out w1 _ (hv.below hw (by omega))).mono ?_
  rintro e w2 ⟨r1, rfl, hg1, hb⟩
  replace hB := kept_below hb (by omega) hB
  replace hD := kept_below hb (by omega) hD
  replace hw := hw.trans (hb.mono (by omega))
  replace hsz : w.heap.size + 2 < w2.heap.size := by have := hb.size; omega
  clear hb p0 p1 p2 p3 p4 p5 HV hA
  obtain ⟨p0, p1, p2, p3, p4, p5⟩ := box6 hB
  go_wp2_with fail
  refine (HP.out w2 _ (HPL.out.below hw (by omega))).mono ?_
  rintro e w3 ⟨r2, rfl, hg2, hb⟩
  replace hD := kept_below hb (by omega) hD
  replace hw := hw.trans (hb.mono (by omega))
  have hg1' : GRep w3 0 w3.heap.size (.mk k h t l ks vs) r1 := GRep.mono (fun k _ hk2 => hb.block k hk2) (Nat.zero_le _) hb.size _ _ hg1
  have hg2' : GRep w3 0 w3.heap.size (listT pl) r2 := GRep.mono (fun _ _ _ => rfl) (Nat.zero_le _) (Nat.le_refl _) _ _ hg2
  replace hsz : w.heap.size + 2 < w3.heap.size := by have := hb.size; omega
  obtain ⟨A, n, c, rfl, hpv⟩ := HPA.out w3 r2 hg2'
  have C5 := Lib.hid (HSD.out w3 r1 A n c (GRep.toP _ _ GV.out hg1') hpv)
  clear hb p0 p1 p2 p3 p4 p5 HP hB hg1 hg1' hg2' hg2 hpv HPA HSD GV hv HPL
  go_wp2_with fail
  refine C5.out.mono ?_
  rintro e w5 ⟨uu, rfl, hrep, hb⟩
  replace hD := kept_below hb (by omega) hD
  replace hw := hw.trans (hb.mono (by omega))
  replace hsz : w.heap.size + 2 < w5.heap.size := by have := hb.size; omega
  clear hb C5
  obtain ⟨gr, fr, sr⟩ := HX.out
  have C6 := Lib.hid (result_val x uu w5 hrep gr fr sr)
  clear hrep gr fr sr HX
  go_wp2_with fail
  refine C6.out.mono ?_
  rintro e w6 ⟨c0, c1, c2, c3, c4, c5, rfl, hrep, hb⟩
  obtain ⟨k1, h1, t1, A1, n1, m1, A2, n2, m2, A3, n3, m3, rfl, rfl, rfl, rfl, rfl, rfl⟩ := hrep.shape
  have hsz5 := hsz
  replace hD := kept_below hb (by omega) hD
  replace hw := hw.trans (hb.mono (by omega))
  replace hsz : w.heap.size + 2 < w6.heap.size := by have := hb.size; omega
  have HR := Lib.hid hrep
  clear hb hrep C6
  obtain ⟨x0, x1, x2, x3, x4, x5, x6⟩ := box7 hD
  obtain ⟨f0, f1, f2, f3, f4, f5, f6⟩ := frozen7 hD
  have HB := Lib.hid (below_set7 hw (Nat.le_add_right _ 2) (.int .i64 k1) (.int .i64 h1) (.string t1) (.slice A1 n1 m1) (.slice A2 n2 m2) (.slice A3 n3 m3) (.int .i64 0))
  clear hw
  go_wp2
  refine bodyPost_ret (v := .agg #[.int .i64 k1, .int .i64 h1, .string t1, .slice A1 n1 m1, .slice A2 n2 m2, .slice A3 n3 m3, .int .i64 0]) (by simp [results, Tryz.results28, go_sem, *]) rfl ⟨.inl ⟨x, _, _, _, _, _, _, rfl, rfl, ?_⟩, HB.out⟩
  exact JRepS.mono (fun b hb => set7_block _ _ _ _ _ _ _ _ _ b (by omega)) (fun b hb => ⟨by omega, by rw [set7_size]; omega⟩) x _ HR.out
end Go.Proofs.YtmjegeipnaalnaaGreatDoor
