/- One map holds another, and all other kinds: the walk of the specification's function, for every value. -/
import Derived.Test.YtmjegeipnaalnaaGreatDoorHoldsW
import Derived.Test.YtmjegeipnaalnaaGreatDoorMapW
namespace Go.Proofs.YtmjegeipnaalnaaGreatDoor
open Go.RowKit

theorem holdsM_append (ks : List ByteArray) (vs : List JV) : ∀ (a : List ByteArray) (b : List JV) (a' : List ByteArray) (b' : List JV), a.length = b.length → holdsM ks vs (a ++ a') (b ++ b') = (holdsM ks vs a b && holdsM ks vs a' b')
  | [], [], a', b', _ => by simp [holdsM]
  | [], _ :: _, _, _, h => absurd h (by simp)
  | _ :: _, [], _, _, h => absurd h (by simp)
  | k :: a, y :: b, a', b', h => by
    rw [List.cons_append, List.cons_append, holdsM_cons, holdsM_cons, holdsM_append ks vs a b a' b' (by simpa using h), Bool.and_assoc]
theorem holdsM_take (ks : List ByteArray) (vs : List JV) (r : List ByteArray) (s : List JV) (j : Nat) (h1 : j < r.length) (h2 : j < s.length) (h : holdsM ks vs (r.take j) (s.take j) = true) : holdsM ks vs (r.take (j + 1)) (s.take (j + 1)) = passV ks vs r[j] s[j] := by
  rw [List.take_succ_eq_append_getElem h1, List.take_succ_eq_append_getElem h2, holdsM_append _ _ _ _ _ _ (by simp; omega), h, holdsM_cons]
  simp [holdsM]

set_option maxRecDepth 100000 in
set_option maxHeartbeats 8000000 in
theorem holds_map (h h' : Int) (t t' : ByteArray) (l l' vs vs' : List JV) (ks ks' : List ByteArray) (ih : ∀ y ∈ vs', HoldsC y) (vx vy : Value) (w : World) (hx : JVal w w.heap.size (.mk 6 h t l ks vs) vx) (hy : JVal w w.heap.size (.mk 6 h' t' l' ks' vs') vy)
    (gv : GoodL vs) (gv' : GoodL vs') (hkv : ks.length = vs.length) (hkv' : ks'.length = vs'.length) (hris : Rising none ks) :
    Calls Tryz.prog 115 #[vx, vy] w fun e w' => e = .returned (.bool (holdsM ks vs ks' vs')) ∧ Below w.heap.size w w' := by
  obtain ⟨vl, vk, vv, rfl, _, _, _, _, ⟨A2, c2, rfl, ha1, ha2, hK⟩, ⟨A3, c3, rfl, hb1, hb2, hV⟩⟩ := hx.laid
  obtain ⟨vl', vk', vv', rfl, _, _, _, _, ⟨A2', c2', rfl, ha1', ha2', hK'⟩, ⟨A3', c3', rfl, hb1', hb2', hV'⟩⟩ := hy.laid
  clear hx hy
  obtain ⟨hX, hY⟩ := two_new w (.cells #[.int .i64 6, .int .i64 h, .string t, vl, .slice A2 ks.length c2, .slice A3 vs.length c3] 26) (.cells #[.int .i64 6, .int .i64 h', .string t', vl', .slice A2' ks'.length c2', .slice A3' vs'.length c3'] 26)
  have hB := ((Below.refl w.heap.size w).alloc (Nat.le_refl _) (.cells #[.int .i64 6, .int .i64 h, .string t, vl, .slice A2 ks.length c2, .slice A3 vs.length c3] 26)).alloc (by simp) (.cells #[.int .i64 6, .int .i64 h', .string t', vl', .slice A2' ks'.length c2', .slice A3' vs'.length c3'] 26)
  have hsz : w.heap.size + 2 ≤ ((w.alloc (.cells #[.int .i64 6, .int .i64 h, .string t, vl, .slice A2 ks.length c2, .slice A3 vs.length c3] 26)).alloc (.cells #[.int .i64 6, .int .i64 h', .string t', vl', .slice A2' ks'.length c2', .slice A3' vs'.length c3'] 26)).heap.size := by simp
  have HKV := Lib.hid hkv
  have HKV' := Lib.hid hkv'
  clear hkv hkv'
  generalize hnk : ks.length = nk at *
  generalize hnv : vs.length = nv at *
  generalize hnk' : ks'.length = nk' at *
  generalize hnv' : vs'.length = nv' at *
  have HNK := Lib.hid hnk
  have HNV := Lib.hid hnv
  have HNK' := Lib.hid hnk'
  have HNV' := Lib.hid hnv'
  have HK := Lib.hid hK
  have HV := Lib.hid hV
  have HK' := Lib.hid hK'
  have HV' := Lib.hid hV'
  clear hnk hnv hnk' hnv' hK hV hK' hV'
  go_enter Tryz.func115, Tryz.ntmps115
  go_upto_region 1 with (fail)
  generalize ((w.alloc (.cells #[.int .i64 6, .int .i64 h, .string t, vl, .slice A2 nk c2, .slice A3 nv c3] 26)).alloc (.cells #[.int .i64 6, .int .i64 h', .string t', vl', .slice A2' nk' c2', .slice A3' nv' c3'] 26)) = w2 at *
  obtain ⟨p0, p1, p2, p3, p4, p5, q0, q1, q2, q3, q4, q5⟩ := boxes12 (Below.refl _ w2) hX hY
  go_wp2_with fail
  go_loopw [63] (fun i wr => ∃ j : Nat, j ≤ nk' ∧ i = .int .i64 j ∧ holdsM ks vs (ks'.take j) (vs'.take j) = true ∧ Below (w.heap.size + 2) w2 wr) (fun i _ => nk' - (intOf i).toNat)
  case atStart => exact ⟨0, Nat.zero_le _, rfl, by simp [holdsM], Below.refl _ _⟩
  case round =>
    obtain ⟨j, hj, rfl, hjt, hbr⟩ := hrel
    obtain ⟨wo, rfl⟩ : ∃ wo, wo = wr := ⟨_, rfl⟩
    obtain ⟨p0, p1, p2, p3, p4, p5, q0, q1, q2, q3, q4, q5⟩ := boxes12 hbr hX hY
    by_cases hjn : j < nk'
    · have hjl : j < ks'.length := by rw [HNK'.out]; exact hjn
      have hjv : j < vs'.length := by rw [HNV'.out, ← HKV'.out]; exact hjn
      have hjn' : j < nv' := by rw [← HKV'.out]; exact hjn
      obtain ⟨b1, o1, rfl, hJK⟩ : ∃ b o, A2' = some ⟨b, o, none⟩ ∧ SCells w w.heap.size ks' b o := by
        rcases HK'.out with h0 | h0
        · omega
        · exact h0
      obtain ⟨b2, o2, rfl, hJV⟩ : ∃ b o, A3' = some ⟨b, o, none⟩ ∧ JCells w w.heap.size vs' b o := by
        rcases HV'.out with h0 | h0
        · omega
        · exact h0
      have hbw : Below w.heap.size w wo := hB.trans (hbr.mono (by omega))
      have hwo : w.heap.size + 2 ≤ wo.heap.size := Nat.le_trans hsz hbr.size
      obtain ⟨_, _, hkc⟩ := SCells.get ks' b1 o1 (SCells.below hbw (Nat.le_refl _) ks' b1 o1 hJK) j hjl
      obtain ⟨_, d0, d1, d2, d3, d4, d5, hRep, y0, y1, y2, y3, y4, y5⟩ := (JCells.below hbw (Nat.le_refl _) vs' b2 o2 hJV).at6 j hjv
      clear hJK hJV
      obtain ⟨k1, h1, t1, B1, n1, m1, B2, n2, m2, B3, n3, m3, rfl, rfl, rfl, rfl, rfl, rfl⟩ := hRep.shape
      have HR1 := Lib.hid hRep
      have hC : HoldsC vs'[j] := ih _ (List.getElem_mem hjv)
      have HC := Lib.hid hC
      have hG : Good vs'[j] := gv'.get _ (List.getElem_mem hjv)
      have HT := Lib.hid (holdsM_take ks vs ks' vs' j hjl hjv hjt)
      have HFB := Lib.hid (fun (e : passV ks vs ks'[j] vs'[j] = false) => holdsM_false (ks := ks) (vs := vs) (r := ks') (s := vs') j hjl hjv e)
      clear hRep hC
      have HAT := Lib.hid (getV_isAt ks'[j] hris (show ks.length = vs.length by rw [HNK.out, HNV.out]; exact HKV.out))
      generalize ks'[j] = key at *
      generalize vs'[j] = y at *
      have hS : ∀ d os, nk = 0 ∨ ∃ b o, A2 = some ⟨b, o, none⟩ ∧ SCells (Sort.grow (redrawn wo d) os) (Sort.grow (redrawn wo d) os).heap.size ks b o := by
        intro d os
        have hr := below_regrown wo d os
        rcases HK.out with h0 | ⟨b, o, h0, h2⟩
        · exact .inl h0
        · exact .inr ⟨b, o, h0, SCells.below (hbw.trans (hr.mono (by omega))) (by have := hr.size; omega) ks b o h2⟩
      have HS := Lib.hid hS
      clear hS
      have r0 := cell_regrown p0
      have r1 := cell_regrown p1
      have r2 := cell_regrown p2
      have r3 := cell_regrown p3
      have r4 := cell_regrown p4
      have r5 := cell_regrown p5
      have s5 := cell_regrown q5
      have z0 := cell_regrown y0
      have z1 := cell_regrown y1
      have z2 := cell_regrown y2
      have z3 := cell_regrown y3
      have z4 := cell_regrown y4
      have z5 := cell_regrown y5
      rcases HAT.out with ⟨hat, hpl, hgv⟩ | ⟨hat, hgv⟩
      · obtain ⟨i, hi⟩ : ∃ i, placeN ks key = i := ⟨_, rfl⟩
        have hiv : i < vs.length := by rw [← hi]; exact hpl
        have hin : i < nv := by rw [← HNV.out]; exact hiv
        obtain ⟨b3, o3, rfl, hJ⟩ : ∃ b o, A3 = some ⟨b, o, none⟩ ∧ JCells w w.heap.size vs b o := by
          rcases HV.out with h0 | h0
          · omega
          · exact h0
        obtain ⟨hb3, e0, e1, e2, e3, e4, e5, hRep, g0, g1, g2, g3, g4, g5⟩ := (JCells.below hbw (Nat.le_refl _) vs b3 o3 hJ).at6 i hiv
        clear hJ
        obtain ⟨k2, h2, t2, B4, n4, m4, B5, n5, m5, B6, n6, m6, rfl, rfl, rfl, rfl, rfl, rfl⟩ := hRep.shape
        have hps : passV ks vs key y = holdsV vs[i] y := by
          unfold passV; rw [hgv]; simp only [hi]
        have hgx : Good vs[i] := gv.get _ (List.getElem_mem hiv)
        have HR2 := Lib.hid hRep
        generalize vs[i] = x2 at *
        have CH := Lib.hid (fun d os => by
          have c := has_walk ks key (.int .i64 6) (.int .i64 h) (.string t) vl (.slice (some ⟨b3, o3, none⟩) nv c3) A2 nk c2 (Sort.grow (redrawn wo d) os) HNK.out.symm (by omega) (HS.out d os)
          rw [hat] at c
          exact c)
        have CG := Lib.hid (fun d os => get_walk ks key (.int .i64 6) (.int .i64 h) (.string t) vl A2 nk c2 nv c3 b3 o3 (Sort.grow (redrawn wo d) os) HNK.out.symm (by omega) (HS.out d os) (by omega) hat i hi hin
          k2 h2 t2 B4 n4 m4 B5 n5 m5 B6 n6 m6 (by have := (below_regrown wo d os).size; omega)
          (cell_regrown g0 d os) (cell_regrown g1 d os) (cell_regrown g2 d os) (cell_regrown g3 d os) (cell_regrown g4 d os) (cell_regrown g5 d os))
        have CC := Lib.hid (fun d os => HC.out x2 (.agg #[.int .i64 k2, .int .i64 h2, .string t2, .slice B4 n4 m4, .slice B5 n5 m5, .slice B6 n6 m6]) (.agg #[.int .i64 k1, .int .i64 h1, .string t1, .slice B1 n1 m1, .slice B2 n2 m2, .slice B3 n3 m3]) (Sort.grow (redrawn wo d) os)
          ⟨_, _, _, _, _, _, rfl, HR2.out.below ((below_regrown wo d os).mono (by omega)) (by have := (below_regrown wo d os).size; omega)⟩ ⟨_, _, _, _, _, _, rfl, HR1.out.below ((below_regrown wo d os).mono (by omega)) (by have := (below_regrown wo d os).size; omega)⟩ hgx hG)
        obtain ⟨z, hz⟩ : ∃ z, holdsV x2 y = z := ⟨_, rfl⟩
        rw [hz] at hps CC
        have HPS := Lib.hid hps
        clear hgv hps hRep g0 g1 g2 g3 g4 g5 hz hi
        go_upto_region 23 with (fail)
        refine wp_region_quiet_below (by kernel_rfl) (by kernel_rfl) ?_
        repeat (go_big_quiet_step (first
          | (go_at_call 109; exact Calls.regrown_of (CH.out _ _))
          | (go_at_call 110; exact Calls.regrown_of (CG.out _ _))
          | (go_at_call 115; exact Calls.regrown_of (CC.out _ _))))
        refine wpQuiet_nil ?_
        intro w' hw'
        obtain ⟨⟨dq, osq⟩, rfl⟩ := hw'
        cases z with
        | true =>
          go_wp2_with fail
          exact ⟨⟨j + 1, by omega, by go_num, by rw [HT.out, HPS.out], hbr.trans ((below_regrown wo dq osq).mono hwo)⟩, by simp [intOf]; omega⟩
        | false =>
          go_wp2_with fail
          go_ret
          refine ⟨?_, hbw.trans ((below_regrown wo dq osq).mono (by omega))⟩
          rw [HFB.out HPS.out]
          rfl
      · have CH := Lib.hid (fun d os => by
          have c := has_walk ks key (.int .i64 6) (.int .i64 h) (.string t) vl (.slice A3 nv c3) A2 nk c2 (Sort.grow (redrawn wo d) os) HNK.out.symm (by omega) (HS.out d os)
          rw [hat] at c
          exact c)
        have hps : passV ks vs key y = false := by unfold passV; rw [hgv]
        have HFF := Lib.hid (HFB.out hps)
        clear hgv hps
        go_upto_region 23 with (fail)
        refine wp_region_quiet_below (by kernel_rfl) (by kernel_rfl) ?_
        repeat (go_big_quiet_step (first
          | (go_at_call 109; exact Calls.regrown_of (CH.out _ _))))
        refine wpQuiet_nil ?_
        intro w' hw'
        obtain ⟨⟨dq, osq⟩, rfl⟩ := hw'
        go_wp2_with fail
        go_ret
        refine ⟨?_, hbw.trans ((below_regrown wo dq osq).mono (by omega))⟩
        rw [HFF.out]
        rfl
    · go_wp2_with fail
      go_ret
      refine ⟨?_, hB.trans (hbr.mono (by omega))⟩
      have e : ks'.take j = ks' := List.take_of_length_le (by rw [HNK'.out]; omega)
      have e2 : vs'.take j = vs' := List.take_of_length_le (by rw [HNV'.out, ← HKV'.out]; omega)
      rw [e, e2] at hjt
      rw [hjt]
      rfl
end Go.Proofs.YtmjegeipnaalnaaGreatDoor
