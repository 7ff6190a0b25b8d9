/- From a value of the thin package to Go's values: lists and maps and all: the walk. From a value of the thin package to Go's values: maps, and every kind: the walk. -/
import Derived.Test.YtmjegeipnaalnaaGreatDoorGrMapW
import Derived.Test.YtmjegeipnaalnaaGreatDoorGrSameN
import Derived.Test.YtmjegeipnaalnaaGreatDoorGrInt
import Derived.Laws.MakeOwn

/- From a value of the thin package to Go's values: lists and maps and all: the walk. -/
namespace Go.Proofs.YtmjegeipnaalnaaGreatDoor
open Go.RowKit

/-- What the way into Go promises for one value. -/
def ToGoC (v : JV) : Prop := ∀ (x : Value) (w : World), JVal w w.heap.size v x → Good v →
  Calls Tryz.prog 41 #[x] w fun e w' => ∃ r, e = .returned (.tuple #[r, .bool true]) ∧ GRep w' w.heap.size w'.heap.size v r ∧ Below w.heap.size w w'

theorem GRep.shape {w : World} {lo B : Nat} {v : JV} {r : Value} (h : GRep w lo B v r) : r = .nilIface ∨ ∃ T u, r = .iface T u := by
  obtain ⟨k, hh, t, l, ks, vs⟩ := v
  unfold GRep at h
  rcases h with ⟨_, e⟩ | ⟨_, e⟩ | ⟨_, e⟩ | ⟨_, _, _, _, _, e⟩ | ⟨_, _, _, _, e⟩ | ⟨_, _, e⟩ | ⟨_, _, _, _, _, _, e, _⟩ | ⟨_, _, _, _, _, e, _⟩
  · exact .inl e
  all_goals exact .inr ⟨_, _, e⟩

theorem make_any (n : Nat) (hn : n ≤ 9000000000000) (w : World) :
    (Instr.makeSlice 80 (.int .i64 n) (.int .i64 n)).run Tryz.prog w = .ok (.slice (some ⟨w.heap.size, 0, none⟩) n n) (w.alloc (.cells (Array.replicate n Value.nilIface) 20)) := by
  obtain ⟨i, hi, hz, hs, hb⟩ : ∃ i, Tryz.prog.info? 20 = some i ∧ i.zero = some .nilIface ∧ i.size = 1 ∧ i.bytes = 16 := ⟨Tryz.t20, by kernel_rfl, by kernel_rfl, by kernel_rfl, by kernel_rfl⟩
  have h := run_make (P := Tryz.prog) w 80 20 i .nilIface (by kernel_rfl) hi hz .i64 .i64 n n (by omega) (by omega) (by rw [hb]; omega) (by omega)
  have e : madeCells (Value.nilIface).cells (((n : Int).toNat) * i.size) = Array.replicate n Value.nilIface := by
    rw [hs]
    apply Array.ext
    · simp [madeCells]
    · intro k h1 h2
      simp [madeCells, Value.cells, Nat.mod_one]
  rw [h, e, Int.toNat_natCast]

theorem set_nth {cs : List Value} {n j : Nat} (hl : cs.length = j) (hj : j < n) (z r : Value) : (cs ++ List.replicate (n - j) z).toArray.setIfInBounds j r = (cs ++ [r] ++ List.replicate (n - (j + 1)) z).toArray := by
  subst hl
  obtain ⟨m, rfl⟩ : ∃ m, n = cs.length + 1 + m := ⟨n - cs.length - 1, by omega⟩
  rw [show cs.length + 1 + m - cs.length = m + 1 by omega, show cs.length + 1 + m - (cs.length + 1) = m by omega, List.replicate_succ]
  apply Array.ext'
  simp
theorem nth_nil {cs : List Value} {n j : Nat} (hl : cs.length = j) (hj : j < n) : (cs ++ List.replicate (n - j) Value.nilIface)[j]? = some .nilIface := by
  subst hl
  rw [List.getElem?_append_right (Nat.le_refl _)]
  simp [List.getElem?_replicate]
  omega

set_option maxRecDepth 100000 in
set_option maxHeartbeats 4000000 in
theorem listToGo (l : List JV) (ih : ∀ y ∈ l, ToGoC y) (gl : GoodL l) (A : Option Addr) (n c : Nat) (w : World) (hn : l.length = n) (hnm : n ≤ 9000000000000) (hJ : n = 0 ∨ ∃ b o, A = some ⟨b, o, none⟩ ∧ JCells w w.heap.size l b o) :
    Calls Tryz.prog 81 #[.slice A n c] w fun e w' => ∃ cs, e = .returned (.tuple #[.slice (some ⟨w.heap.size, 0, none⟩) n n, .bool true]) ∧ w'.heap[w.heap.size]? = some (.cells (List.toArray cs) 20 (0, 0)) ∧ GVals w' (w.heap.size + 1) w'.heap.size l cs ∧ Below w.heap.size w w' := by
  have HN := Lib.hid hn
  have HJ := Lib.hid hJ
  have hmk := make_any n hnm w
  have hN := heap_alloc_new w (.cells (Array.replicate n Value.nilIface) 20)
  have hB := (Below.refl w.heap.size w).alloc (Nat.le_refl _) (.cells (Array.replicate n Value.nilIface) 20)
  have hsz : w.heap.size + 1 ≤ (w.alloc (.cells (Array.replicate n Value.nilIface) 20)).heap.size := by simp
  clear hn hJ
  go_enter Tryz.func81, Tryz.ntmps81
  go_upto_region 2 with (fail)
  generalize w.alloc (.cells (Array.replicate n Value.nilIface) 20) = w1 at *
  go_wp2_with fail
  go_loopw [14] (fun i wr => ∃ (j : Nat) (cs : List Value), j ≤ n ∧ i = .int .i64 j ∧ cs.length = j ∧ GVals wr (w.heap.size + 1) wr.heap.size (l.take j) cs ∧ wr.heap[w.heap.size]? = some (.cells (cs ++ List.replicate (n - j) Value.nilIface).toArray 20 (0, 0)) ∧ Below w.heap.size w wr ∧ w.heap.size + 1 ≤ wr.heap.size) (fun i _ => n - (intOf i).toNat)
  case atStart => exact ⟨0, [], Nat.zero_le _, rfl, rfl, by simpa using GVals.nil, by simpa using hN, hB, hsz⟩
  case round =>
    obtain ⟨j, cs, hj, rfl, hcs, hgv, hbl, hbr, hszr⟩ := hrel
    obtain ⟨wo, rfl⟩ : ∃ wo, wo = wr := ⟨_, rfl⟩
    by_cases hjn : j < n
    · have hjl : j < l.length := by rw [HN.out]; exact hjn
      obtain ⟨b2, o2, rfl, hJ⟩ : ∃ b o, A = some ⟨b, o, none⟩ ∧ JCells w w.heap.size l b o := by
        rcases HJ.out with h0 | h0
        · omega
        · exact h0
      obtain ⟨hb2, d0, d1, d2, d3, d4, d5, hRep, y0, y1, y2, y3, y4, y5⟩ := (JCells.below hbr (Nat.le_refl _) l b2 o2 hJ).at6 j hjl
      clear hJ
      obtain ⟨k1, h1, t1, A1, n1, m1, A2, n2, m2, A3, n3, m3, rfl, rfl, rfl, rfl, rfl, rfl⟩ := hRep.shape
      have hTake : l.take (j + 1) = l.take j ++ [l[j]] := List.take_succ_eq_append_getElem hjl
      have hC := ih _ (List.getElem_mem hjl)
      have hG := gl.get _ (List.getElem_mem hjl)
      generalize l[j] = y at *
      go_upto_region 5 with (fail)
      have hbz := (Below.refl wo.heap.size wo).alloc (Nat.le_refl _) (.cells #[.int .i64 k1, .int .i64 h1, .string t1, .slice A1 n1 m1, .slice A2 n2 m2, .slice A3 n3 m3] 26)
      have hE := heap_alloc_new wo (.cells #[.int .i64 k1, .int .i64 h1, .string t1, .slice A1 n1 m1, .slice A2 n2 m2, .slice A3 n3 m3] 26)
      generalize wo.alloc (.cells #[.int .i64 k1, .int .i64 h1, .string t1, .slice A1 n1 m1, .slice A2 n2 m2, .slice A3 n3 m3] 26) = wz at *
      have hszz : wo.heap.size ≤ wz.heap.size := hbz.size
      obtain ⟨x0, x1, x2, x3, x4, x5⟩ := box6 hE
      have c := hC (.agg #[.int .i64 k1, .int .i64 h1, .string t1, .slice A1 n1 m1, .slice A2 n2 m2, .slice A3 n3 m3]) wz ⟨_, _, _, _, _, _, rfl, hRep.below (hbz.mono (by omega)) (by omega)⟩ hG
      have C := Lib.hid c
      have HT := Lib.hid hTake
      have HGV := Lib.hid hgv
      clear c hC hRep hTake hgv
      go_wp2_with fail
      refine C.out.mono ?_
      rintro e w3 ⟨r, rfl, hr, hb3⟩
      have hsz3 : wz.heap.size ≤ w3.heap.size := hb3.size
      have hbl3 := kept_below hb3 (by omega) (kept_below hbz (by omega) hbl)
      have hc3 : w3.cell? ⟨w.heap.size, j, none⟩ = some .nilIface := by
        have := nth_nil (cs := cs) hcs hjn
        simp only [World.cell?, hbl3]
        simpa using this
      have hf3 : w3.frozen? ⟨w.heap.size, j, none⟩ = false := by simp [World.frozen?, hbl3]
      have hbw3 : Below w.heap.size w w3 := (hbr.trans (hbz.mono (by omega))).trans (hb3.mono (by omega))
      have hset := heap_setCell_same w3 w.heap.size j _ 20 r hbl3
      rw [set_nth hcs hjn] at hset
      have hkeep : ∀ k, w.heap.size + 1 ≤ k → (w3.setCell ⟨w.heap.size, j, none⟩ r).heap[k]? = w3.heap[k]? := fun k hk => Below.heap_setCell _ _ _ _ (by simp; omega)
      have hszs : (w3.setCell ⟨w.heap.size, j, none⟩ r).heap.size = w3.heap.size := by simp [World.setCell]
      have hgn : GVals (w3.setCell ⟨w.heap.size, j, none⟩ r) (w.heap.size + 1) (w3.setCell ⟨w.heap.size, j, none⟩ r).heap.size (l.take (j + 1)) (cs ++ [r]) := by
        rw [HT.out]
        refine GVals.snoc (GRep.mono (fun k hk1 hk2 => hkeep k (by omega)) (by omega) (by omega) _ _ hr) ?_
        exact GVals.mono (fun k hk1 hk2 => (hkeep k hk1).trans (((hb3.mono hszz).block k (by omega)).trans (hbz.block k (by omega)))) (Nat.le_refl _) (by omega) _ _ HGV.out
      have HGN := Lib.hid hgn
      have HSET := Lib.hid hset
      clear hgn hset hkeep
      rcases hr.shape with rfl | ⟨T, u, rfl⟩
      all_goals
        clear hr
        go_wp2_with fail
        exact ⟨⟨j + 1, cs ++ [_], by omega, by go_num, by simp [hcs], HGN.out, HSET.out, hbw3.setCell (Nat.le_refl _) _, by rw [hszs]; omega⟩, by simp [intOf]; omega⟩
    · go_wp2_with fail
      go_ret2
      have ej : j = n := by omega
      subst ej
      have e : l.take j = l := List.take_of_length_le (by rw [HN.out]; omega)
      rw [e] at hgv
      exact ⟨cs, rfl, by simpa using hbl, hgv, hbr⟩
end Go.Proofs.YtmjegeipnaalnaaGreatDoor

/- From a value of the thin package to Go's values: maps, and every kind: the walk. -/
namespace Go.Proofs.YtmjegeipnaalnaaGreatDoor
open Go.RowKit

theorem rising_lt : ∀ {ks : List ByteArray} {p : Option ByteArray}, Rising p ks → ∀ (i j : Nat) (hij : i < j) (hj : j < ks.length), keyLt (ks[i]'(by omega)) ks[j] = true
  | [], _, _, _, _, _, hj => absurd hj (by simp)
  | k :: r, p, h, 0, j + 1, _, hj => by
    unfold Rising at h
    have hm : r[j]'(by simpa using hj) ∈ r := List.getElem_mem _
    exact rising_all h.2 _ hm
  | k :: r, p, h, i + 1, 0, hij, _ => absurd hij (by omega)
  | k :: r, p, h, i + 1, j + 1, hij, hj => by
    unfold Rising at h
    exact rising_lt h.2 i j (by omega) (by simpa using hj)

theorem make_map (n : Nat) (w : World) : (Instr.makeMap 83 (some (.int .i64 n))).run Tryz.prog w = .ok (.map (some w.heap.size)) (w.alloc (.map #[] 0)) := by
  simp [Instr.makeMap, run_underlying Tryz.underlying83, asInt, asIntOf]

theorem lay_map (es : List MapEntry) (e : MapEntry) : (es.toArray.push e) = (es ++ [e]).toArray := by simp

set_option maxRecDepth 100000 in
set_option maxHeartbeats 8000000 in
theorem mapToGo (ks : List ByteArray) (vs : List JV) (hl : ks.length = vs.length) (hris : Rising none ks) (ih : ∀ y ∈ vs, ToGoC y) (gv : GoodL vs) (c0 c1 c2 c3 : Value) (A A' : Option Addr) (n c n' c' : Nat) (w : World) (hn : ks.length = n) (hn' : vs.length = n') (hnm : n ≤ 9000000000000)
    (hJ : n = 0 ∨ ∃ b o, A = some ⟨b, o, none⟩ ∧ SCells w w.heap.size ks b o) (hJ' : n' = 0 ∨ ∃ b o, A' = some ⟨b, o, none⟩ ∧ JCells w w.heap.size vs b o) :
    Calls Tryz.prog 82 #[.agg #[c0, c1, c2, c3, .slice A n c, .slice A' n' c']] w fun e w' => ∃ es : List MapEntry, e = .returned (.tuple #[.map (some (w.heap.size + 1)), .bool true]) ∧ w'.heap[w.heap.size + 1]? = some (.map (List.toArray es) es.length) ∧ es.length = n ∧
      es.map (·.key) = ks.map Value.string ∧ es.map (·.born) = List.range es.length ∧ GVals w' (w.heap.size + 2) w'.heap.size vs (es.map (·.val)) ∧ Below w.heap.size w w' := by
  have hnn : n = n' := by omega
  subst hnn
  have HL := Lib.hid hl
  have HN := Lib.hid hn
  have HN' := Lib.hid hn'
  have HJ := Lib.hid hJ
  have HJ' := Lib.hid hJ'
  have hmk := make_map n
  obtain ⟨hX, hM⟩ := two_new w (.cells #[c0, c1, c2, c3, .slice A n c, .slice A' n c'] 26) (.map #[] 0)
  have hB := ((Below.refl w.heap.size w).alloc (Nat.le_refl _) (.cells #[c0, c1, c2, c3, .slice A n c, .slice A' n c'] 26)).alloc (by simp) (.map #[] 0)
  have hsz : w.heap.size + 2 ≤ ((w.alloc (.cells #[c0, c1, c2, c3, .slice A n c, .slice A' n c'] 26)).alloc (.map #[] 0)).heap.size := by simp
  clear hn hn' hJ hJ' hl
  go_enter Tryz.func82, Tryz.ntmps82
  go_upto_region 4 with (fail)
  generalize ((w.alloc (.cells #[c0, c1, c2, c3, .slice A n c, .slice A' n c'] 26)).alloc (.map #[] 0)) = w1 at *
  obtain ⟨x0, x1, x2, x3, x4, x5⟩ := box6 hX
  go_wp2_with fail
  go_loopw [23] (fun i wr => ∃ (j : Nat) (es : List MapEntry), j ≤ n ∧ i = .int .i64 j ∧ es.length = j ∧ es.map (·.key) = (ks.take j).map Value.string ∧ es.map (·.born) = List.range es.length ∧ GVals wr (w.heap.size + 2) wr.heap.size (vs.take j) (es.map (·.val)) ∧ wr.heap[w.heap.size + 1]? = some (.map (List.toArray es) es.length) ∧ Below (w.heap.size + 1) w1 wr ∧ w.heap.size + 2 ≤ wr.heap.size) (fun i _ => n - (intOf i).toNat)
  case atStart => exact ⟨0, [], Nat.zero_le _, rfl, rfl, rfl, rfl, by simpa using GVals.nil, by simpa using hM, Below.refl _ _, hsz⟩
  case round =>
    obtain ⟨j, es, hj, rfl, hes, hkey, hborn, hgv, hmap, hbr, hszr⟩ := hrel
    obtain ⟨wo, rfl⟩ : ∃ wo, wo = wr := ⟨_, rfl⟩
    have hXo := kept_below hbr (by omega) hX
    obtain ⟨x0, x1, x2, x3, x4, x5⟩ := box6 hXo
    have hbw : Below w.heap.size w wo := hB.trans (hbr.mono (by omega))
    by_cases hjn : j < n
    · have hjl : j < ks.length := by rw [HN.out]; exact hjn
      have hjv : j < vs.length := by rw [HN'.out]; exact hjn
      obtain ⟨b1, o1, rfl, hJK⟩ : ∃ b o, A = some ⟨b, o, none⟩ ∧ SCells w w.heap.size ks b o := by
        rcases HJ.out with h0 | h0
        · omega
        · exact h0
      obtain ⟨b2, o2, rfl, hJV⟩ : ∃ b o, A' = some ⟨b, o, none⟩ ∧ JCells w w.heap.size vs b o := by
        rcases HJ'.out with h0 | h0
        · omega
        · exact h0
      have hSK := SCells.below hbw (Nat.le_refl _) ks b1 o1 hJK
      obtain ⟨_, _, hkc⟩ := SCells.get ks b1 o1 hSK j hjl
      obtain ⟨hb2, d0, d1, d2, d3, d4, d5, hRep, y0, y1, y2, y3, y4, y5⟩ := (JCells.below hbw (Nat.le_refl _) vs b2 o2 hJV).at6 j hjv
      clear hJV
      obtain ⟨k1, h1, t1, A1, n1, m1, A2, n2, m2, A3, n3, m3, rfl, rfl, rfl, rfl, rfl, rfl⟩ := hRep.shape
      have hTake : vs.take (j + 1) = vs.take j ++ [vs[j]] := List.take_succ_eq_append_getElem hjv
      have hTakeK : ks.take (j + 1) = ks.take j ++ [ks[j]] := List.take_succ_eq_append_getElem hjl
      have hC := ih _ (List.getElem_mem hjv)
      have hG := gv.get _ (List.getElem_mem hjv)
      have hfn : Instr.findNow .string (.string ks[j]) es 0 = some none := by
        rcases find_look ks[j] (ks.take j) (vs.take j) es 0 hkey hgv (by simp; omega) with ⟨_, h2⟩ | ⟨y, c, i, h2, _⟩
        · exact h2
        · have : getV (ks.take j) (vs.take j) ks[j] = none := getV_none fun k hk => by
            obtain ⟨i, hi, rfl⟩ := List.mem_iff_getElem.1 hk
            have hij : i < j := by simp at hi; omega
            rw [List.getElem_take]
            exact keyLt_ne (rising_lt hris i j hij hjl)
          rw [this] at h2; cases h2
      have HT := Lib.hid hTake
      have HTK := Lib.hid hTakeK
      have HGV := Lib.hid hgv
      have HFN := Lib.hid hfn
      have HKEY := Lib.hid hkey
      have HBORN := Lib.hid hborn
      have HES := Lib.hid hes
      have c := hC (.agg #[.int .i64 k1, .int .i64 h1, .string t1, .slice A1 n1 m1, .slice A2 n2 m2, .slice A3 n3 m3]) wo ⟨_, _, _, _, _, _, rfl, hRep.below (Below.refl _ _) (by omega)⟩ hG
      have C := Lib.hid c
      have hprev : j = 0 ∨ ∃ i, j = i + 1 ∧ ∃ (hi : i < ks.length), w1 = w1 ∧ wo.cell? ⟨b1, o1 + i, none⟩ = some (.string ks[i]) ∧ keyLt ks[i] ks[j] = true := by
        rcases Nat.eq_zero_or_pos j with h0 | h0
        · exact .inl h0
        · obtain ⟨i, rfl⟩ : ∃ i, j = i + 1 := ⟨j - 1, by omega⟩
          exact .inr ⟨i, rfl, by omega, rfl, (SCells.get ks b1 o1 hSK i (by omega)).2.2, rising_lt hris i (i + 1) (by omega) hjl⟩
      have HP := Lib.hid hprev
      clear c hC hRep hTake hTakeK hgv hfn hkey hborn hes hprev hSK hJK
      generalize vs[j] = y at *
      generalize ks[j] = key at *
      rcases HP.out with h0 | ⟨i, h0, hi, _, hpc, hpl⟩
      all_goals
        clear HP
        try (replace hpl : Op.bytesLess ks[i].toList key.toList = true := hpl)
        try generalize ks[i] = kp at *
        obtain ⟨jj, hjj⟩ : ∃ jj, jj = j := ⟨_, rfl⟩
        have HJJ := Lib.hid hjj
        clear hjj
        subst h0
        try simp only [Nat.add_zero, Nat.zero_mul] at hkc y0 y1 y2 y3 y4 y5
        go_wp2_with fail
        refine C.out.mono ?_
        rintro e w3 ⟨r, rfl, hr, hb3⟩
        have hsz3 : wo.heap.size ≤ w3.heap.size := hb3.size
        have hmap3 := kept_below hb3 (by omega) hmap
        have hup := run_update (P := Tryz.prog) (val := r) Tryz.underlying83 Tryz.underlying9 hmap3 (by simpa using HFN.out)
        have hlay := layB_at (o := .map ((List.toArray es).push { key := .string key, val := r, born := es.length : MapEntry }) (es.length + 1)) hmap3
        have hoth := fun k (hk : k ≠ w.heap.size + 1) => layB_other w3 (r := w.heap.size + 1) (.map ((List.toArray es).push { key := .string key, val := r, born := es.length : MapEntry }) (es.length + 1)) hk
        have hbl3 : Below (w.heap.size + 1) w1 (layB w3 (w.heap.size + 1) (.map ((List.toArray es).push { key := .string key, val := r, born := es.length : MapEntry }) (es.length + 1))) := Below.lay (hbr.trans (hb3.mono (by omega))) (Nat.le_refl _) _
        have hszl : (layB w3 (w.heap.size + 1) (.map ((List.toArray es).push { key := .string key, val := r, born := es.length : MapEntry }) (es.length + 1))).heap.size = w3.heap.size := layB_size _ _ _
        have HUP := Lib.hid hup
        generalize hwl : layB w3 (w.heap.size + 1) (.map ((List.toArray es).push { key := .string key, val := r, born := es.length : MapEntry }) (es.length + 1)) = wl at *
        have hgn : GVals wl (w.heap.size + 2) wl.heap.size (vs.take (jj + 1)) ((es ++ [{ key := .string key, val := r, born := es.length : MapEntry }]).map (·.val)) := by
          rw [HJJ.out, HT.out, List.map_append]
          refine GVals.snoc (GRep.mono (fun k hk1 hk2 => hoth k (by omega)) (by omega) (by omega) _ _ hr) ?_
          exact GVals.mono (fun k hk1 hk2 => (hoth k (by omega)).trans (hb3.block k (by omega))) (Nat.le_refl _) (by omega) _ _ HGV.out
        have HGN := Lib.hid hgn
        have HLAY := Lib.hid hlay
        have HBL := Lib.hid hbl3
        have hups : (Instr.mapUpdate 83 (.map (some (w.heap.size + 1))) (.string key) r).run Tryz.prog w3 = .ok () wl := by have := HUP.out; rw [this]; try rw [hwl]
        clear hgn hlay hoth hbl3 hup HUP hwl hmap3
        go_wp2_with fail
        refine ⟨⟨jj + 1, es ++ [{ key := .string key, val := r, born := es.length : MapEntry }], by rw [HJJ.out]; omega, by rw [HJJ.out]; go_num, by simp [HES.out, HJJ.out], ?_, ?_, HGN.out, ?_, HBL.out, by rw [hszl]; omega⟩, by simp [intOf]; omega⟩
        · rw [HJJ.out, HTK.out, List.map_append, List.map_append, HKEY.out]; rfl
        · rw [List.map_append, HBORN.out, List.length_append]
          show List.range es.length ++ [es.length] = List.range (es.length + 1)
          rw [List.range_succ]
        · rw [List.length_append]
          have := HLAY.out
          rw [lay_map] at this
          exact this
    · go_wp2_with fail
      go_ret2
      have ej : j = n := by omega
      subst ej
      have e : vs.take j = vs := List.take_of_length_le (by rw [HN'.out]; omega)
      have e2 : ks.take j = ks := List.take_of_length_le (by rw [HN.out]; omega)
      rw [e] at hgv
      rw [e2] at hkey
      exact ⟨es, rfl, hmap, hes, hkey, hborn, hgv, hbw⟩
end Go.Proofs.YtmjegeipnaalnaaGreatDoor
