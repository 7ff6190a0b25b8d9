/- From a value of the thin package to Go's values: maps, and every kind: the walk. -/
import Derived.Test.YtmjegeipnaalnaaGreatDoorToGo
namespace Go.Proofs.YtmjegeipnaalnaaGreatDoor
open Go.RowKit

theorem rising_lt : ∀ {ks : List ByteArray} {p : Option ByteArray}, Rising p ks → ∀ (i j : Nat) (hij : i < j) (hj : j < ks.length), keyLt (ks[i]'(by omega)) ks[j] = true
  | [], _, _, _, _, _, hj => absurd hj (by simp)
  | k :: r, p, h, 0, j + 1, _, hj => by
    unfold Rising at h
    have hm : r[j]'(by simpa using hj) ∈ r := List.getElem_mem _
    exact rising_all h.2 _ hm
  | k :: r, p, h, i + 1, 0, hij, _ => absurd hij (by omega)
  | k :: r, p, h, i + 1, j + 1, hij, hj => by
    unfold Rising at h
    exact rising_lt h.2 i j (by omega) (by simpa using hj)

theorem make_map (n : Nat) (w : World) : (Instr.makeMap 83 (some (.int .i64 n))).run Tryz.prog w = .ok (.map (some w.heap.size)) (w.alloc (.map #[] 0)) := by
  simp [Instr.makeMap, run_underlying Tryz.underlying83, asInt, asIntOf]

theorem lay_map (es : List MapEntry) (e : MapEntry) : (es.toArray.push e) = (es ++ [e]).toArray := by simp

set_option maxRecDepth 100000 in
set_option maxHeartbeats 8000000 in
theorem mapToGo (ks : List ByteArray) (vs : List JV) (hl : ks.length = vs.length) (hris : Rising none ks) (ih : ∀ y ∈ vs, ToGoC y) (gv : GoodL vs) (c0 c1 c2 c3 : Value) (A A' : Option Addr) (n c n' c' : Nat) (w : World) (hn : ks.length = n) (hn' : vs.length = n') (hnm : n ≤ 9000000000000)
    (hJ : n = 0 ∨ ∃ b o, A = some ⟨b, o, none⟩ ∧ SCells w w.heap.size ks b o) (hJ' : n' = 0 ∨ ∃ b o, A' = some ⟨b, o, none⟩ ∧ JCells w w.heap.size vs b o) :
    Calls Tryz.prog 82 #[.agg #[c0, c1, c2, c3, .slice A n c, .slice A' n' c']] w fun e w' => ∃ es : List MapEntry, e = .returned (.tuple #[.map (some (w.heap.size + 1)), .bool true]) ∧ w'.heap[w.heap.size + 1]? = some (.map (List.toArray es) es.length) ∧ es.length = n ∧
      es.map (·.key) = ks.map Value.string ∧ es.map (·.born) = List.range es.length ∧ GVals w' (w.heap.size + 2) w'.heap.size vs (es.map (·.val)) ∧ Below w.heap.size w w' := by
  have hnn : n = n' := by omega
  subst hnn
  have HL := Lib.hid hl
  have HN := Lib.hid hn
  have HN' := Lib.hid hn'
  have HJ := Lib.hid hJ
  have HJ' := Lib.hid hJ'
  have hmk := make_map n
  obtain ⟨hX, hM⟩ := two_new w (.cells #[c0, c1, c2, c3, .slice A n c, .slice A' n c'] 26) (.map #[] 0)
  have hB := ((Below.refl w.heap.size w).alloc (Nat.le_refl _) (.cells #[c0, c1, c2, c3, .slice A n c, .slice A' n c'] 26)).alloc (by simp) (.map #[] 0)
  have hsz : w.heap.size + 2 ≤ ((w.alloc (.cells #[c0, c1, c2, c3, .slice A n c, .slice A' n c'] 26)).alloc (.map #[] 0)).heap.size := by simp
  clear hn hn' hJ hJ' hl
  go_enter Tryz.func82, Tryz.ntmps82
  go_upto_region 4 with (fail)
  generalize ((w.alloc (.cells #[c0, c1, c2, c3, .slice A n c, .slice A' n c'] 26)).alloc (.map #[] 0)) = w1 at *
  obtain ⟨x0, x1, x2, x3, x4, x5⟩ := box6 hX
  go_wp2_with fail
  go_loopw [23] (fun i wr => ∃ (j : Nat) (es : List MapEntry), j ≤ n ∧ i = .int .i64 j ∧ es.length = j ∧ es.map (·.key) = (ks.take j).map Value.string ∧ es.map (·.born) = List.range es.length ∧ GVals wr (w.heap.size + 2) wr.heap.size (vs.take j) (es.map (·.val)) ∧ wr.heap[w.heap.size + 1]? = some (.map (List.toArray es) es.length) ∧ Below (w.heap.size + 1) w1 wr ∧ w.heap.size + 2 ≤ wr.heap.size) (fun i _ => n - (intOf i).toNat)
  case atStart => exact ⟨0, [], Nat.zero_le _, rfl, rfl, rfl, rfl, by simpa using GVals.nil, by simpa using hM, Below.refl _ _, hsz⟩
  case round =>
    obtain ⟨j, es, hj, rfl, hes, hkey, hborn, hgv, hmap, hbr, hszr⟩ := hrel
    obtain ⟨wo, rfl⟩ : ∃ wo, wo = wr := ⟨_, rfl⟩
    have hXo := kept_below hbr (by omega) hX
    obtain ⟨x0, x1, x2, x3, x4, x5⟩ := box6 hXo
    have hbw : Below w.heap.size w wo := hB.trans (hbr.mono (by omega))
    by_cases hjn : j < n
    · have hjl : j < ks.length := by rw [HN.out]; exact hjn
      have hjv : j < vs.length := by rw [HN'.out]; exact hjn
      obtain ⟨b1, o1, rfl, hJK⟩ : ∃ b o, A = some ⟨b, o, none⟩ ∧ SCells w w.heap.size ks b o := by
        rcases HJ.out with h0 | h0
        · omega
        · exact h0
      obtain ⟨b2, o2, rfl, hJV⟩ : ∃ b o, A' = some ⟨b, o, none⟩ ∧ JCells w w.heap.size vs b o := by
        rcases HJ'.out with h0 | h0
        · omega
        · exact h0
      have hSK := SCells.below hbw (Nat.le_refl _) ks b1 o1 hJK
      obtain ⟨_, _, hkc⟩ := SCells.get ks b1 o1 hSK j hjl
      obtain ⟨hb2, d0, d1, d2, d3, d4, d5, hRep, y0, y1, y2, y3, y4, y5⟩ := (JCells.below hbw (Nat.le_refl _) vs b2 o2 hJV).at6 j hjv
      clear hJV
      obtain ⟨k1, h1, t1, A1, n1, m1, A2, n2, m2, A3, n3, m3, rfl, rfl, rfl, rfl, rfl, rfl⟩ := hRep.shape
      have hTake : vs.take (j + 1) = vs.take j ++ [vs[j]] := List.take_succ_eq_append_getElem hjv
      have hTakeK : ks.take (j + 1) = ks.take j ++ [ks[j]] := List.take_succ_eq_append_getElem hjl
      have hC := ih _ (List.getElem_mem hjv)
      have hG := gv.get _ (List.getElem_mem hjv)
      have hfn : Instr.findNow .string (.string ks[j]) es 0 = some none := by
        rcases find_look ks[j] (ks.take j) (vs.take j) es 0 hkey hgv (by simp; omega) with ⟨_, h2⟩ | ⟨y, c, i, h2, _⟩
        · exact h2
        · have : getV (ks.take j) (vs.take j) ks[j] = none := getV_none fun k hk => by
            obtain ⟨i, hi, rfl⟩ := List.mem_iff_getElem.1 hk
            have hij : i < j := by simp at hi; omega
            rw [List.getElem_take]
            exact keyLt_ne (rising_lt hris i j hij hjl)
          rw [this] at h2; cases h2
      have HT := Lib.hid hTake
      have HTK := Lib.hid hTakeK
      have HGV := Lib.hid hgv
      have HFN := Lib.hid hfn
      have HKEY := Lib.hid hkey
      have HBORN := Lib.hid hborn
      have HES := Lib.hid hes
      have c := hC (.agg #[.int .i64 k1, .int .i64 h1, .string t1, .slice A1 n1 m1, .slice A2 n2 m2, .slice A3 n3 m3]) wo ⟨_, _, _, _, _, _, rfl, hRep.below (Below.refl _ _) (by omega)⟩ hG
      have C := Lib.hid c
      have hprev : j = 0 ∨ ∃ i, j = i + 1 ∧ ∃ (hi : i < ks.length), w1 = w1 ∧ wo.cell? ⟨b1, o1 + i, none⟩ = some (.string ks[i]) ∧ keyLt ks[i] ks[j] = true := by
        rcases Nat.eq_zero_or_pos j with h0 | h0
        · exact .inl h0
        · obtain ⟨i, rfl⟩ : ∃ i, j = i + 1 := ⟨j - 1, by omega⟩
          exact .inr ⟨i, rfl, by omega, rfl, (SCells.get ks b1 o1 hSK i (by omega)).2.2, rising_lt hris i (i + 1) (by omega) hjl⟩
      have HP := Lib.hid hprev
      clear c hC hRep hTake hTakeK hgv hfn hkey hborn hes hprev hSK hJK
      generalize vs[j] = y at *
      generalize ks[j] = key at *
      rcases HP.out with h0 | ⟨i, h0, hi, _, hpc, hpl⟩
      all_goals
        clear HP
        try (replace hpl : Op.bytesLess ks[i].toList key.toList = true := hpl)
        try generalize ks[i] = kp at *
        obtain ⟨jj, hjj⟩ : ∃ jj, jj = j := ⟨_, rfl⟩
        have HJJ := Lib.hid hjj
        clear hjj
        subst h0
        try simp only [Nat.add_zero, Nat.zero_mul] at hkc y0 y1 y2 y3 y4 y5
        go_wp2_with fail
        refine C.out.mono ?_
        rintro e w3 ⟨r, rfl, hr, hb3⟩
        have hsz3 : wo.heap.size ≤ w3.heap.size := hb3.size
        have hmap3 := kept_below hb3 (by omega) hmap
        have hup := run_update (P := Tryz.prog) (val := r) Tryz.underlying83 Tryz.underlying9 hmap3 (by simpa using HFN.out)
        have hlay := layB_at (o := .map ((List.toArray es).push { key := .string key, val := r, born := es.length : MapEntry }) (es.length + 1)) hmap3
        have hoth := fun k (hk : k ≠ w.heap.size + 1) => layB_other w3 (r := w.heap.size + 1) (.map ((List.toArray es).push { key := .string key, val := r, born := es.length : MapEntry }) (es.length + 1)) hk
        have hbl3 : Below (w.heap.size + 1) w1 (layB w3 (w.heap.size + 1) (.map ((List.toArray es).push { key := .string key, val := r, born := es.length : MapEntry }) (es.length + 1))) := Below.lay (hbr.trans (hb3.mono (by omega))) (Nat.le_refl _) _
        have hszl : (layB w3 (w.heap.size + 1) (.map ((List.toArray es).push { key := .string key, val := r, born := es.length : MapEntry }) (es.length + 1))).heap.size = w3.heap.size := layB_size _ _ _
        have HUP := Lib.hid hup
        generalize hwl : layB w3 (w.heap.size + 1) (.map ((List.toArray es).push { key := .string key, val := r, born := es.length : MapEntry }) (es.length + 1)) = wl at *
        have hgn : GVals wl (w.heap.size + 2) wl.heap.size (vs.take (jj + 1)) ((es ++ [{ key := .string key, val := r, born := es.length : MapEntry }]).map (·.val)) := by
          rw [HJJ.out, HT.out, List.map_append]
          refine GVals.snoc (GRep.mono (fun k hk1 hk2 => hoth k (by omega)) (by omega) (by omega) _ _ hr) ?_
          exact GVals.mono (fun k hk1 hk2 => (hoth k (by omega)).trans (hb3.block k (by omega))) (Nat.le_refl _) (by omega) _ _ HGV.out
        have HGN := Lib.hid hgn
        have HLAY := Lib.hid hlay
        have HBL := Lib.hid hbl3
        have hups : (Instr.mapUpdate 83 (.map (some (w.heap.size + 1))) (.string key) r).run Tryz.prog w3 = .ok () wl := by have := HUP.out; rw [this]; try rw [hwl]
        clear hgn hlay hoth hbl3 hup HUP hwl hmap3
        go_wp2_with fail
        refine ⟨⟨jj + 1, es ++ [{ key := .string key, val := r, born := es.length : MapEntry }], by rw [HJJ.out]; omega, by rw [HJJ.out]; go_num, by simp [HES.out, HJJ.out], ?_, ?_, HGN.out, ?_, HBL.out, by rw [hszl]; omega⟩, by simp [intOf]; omega⟩
        · rw [HJJ.out, HTK.out, List.map_append, List.map_append, HKEY.out]; rfl
        · rw [List.map_append, HBORN.out, List.length_append]
          show List.range es.length ++ [es.length] = List.range (es.length + 1)
          rw [List.range_succ]
        · rw [List.length_append]
          have := HLAY.out
          rw [lay_map] at this
          exact this
    · go_wp2_with fail
      go_ret2
      have ej : j = n := by omega
      subst ej
      have e : vs.take j = vs := List.take_of_length_le (by rw [HN'.out]; omega)
      have e2 : ks.take j = ks := List.take_of_length_le (by rw [HN.out]; omega)
      rw [e] at hgv
      rw [e2] at hkey
      exact ⟨es, rfl, hmap, hes, hkey, hborn, hgv, hbw⟩
end Go.Proofs.YtmjegeipnaalnaaGreatDoor
