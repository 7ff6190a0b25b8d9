/- The package's order: what is called for which kinds; texts, lists of texts; maps. -/
import Derived.Test.YtmjegeipnaalnaaGreatDoorGrOrdT
namespace Go.Proofs.YtmjegeipnaalnaaGreatDoor
open Go.RowKit

@[go_sem] theorem as_lst_80f (v : Value) (w : World) : (Instr.typeAssert (.iface 80 v) 20 80 false).run Tryz.prog w = .ok v w := by kernel_rfl
@[go_sem] theorem as_str_9f (s : ByteArray) (w : World) : (Instr.typeAssert (.iface 9 (.string s)) 20 9 false).run Tryz.prog w = .ok (.string s) w := by kernel_rfl
theorem enters206 : Enters 206 := fun args w => Go.Proofs.enters_of Tryz.func206 (by kernel_rfl) rfl args w
theorem enters207 : Enters 207 := fun args w => Go.Proofs.enters_of Tryz.func207 (by kernel_rfl) rfl args w
theorem enters209 : Enters 209 := fun args w => Go.Proofs.enters_of Tryz.func209 (by kernel_rfl) rfl args w
theorem enters210 : Enters 210 := fun args w => Go.Proofs.enters_of Tryz.func210 (by kernel_rfl) rfl args w
theorem enters211 : Enters 211 := fun args w => Go.Proofs.enters_of Tryz.func211 (by kernel_rfl) rfl args w
theorem enters213 : Enters 213 := fun args w => Go.Proofs.enters_of Tryz.func213 (by kernel_rfl) rfl args w

set_option maxRecDepth 100000 in
theorem ord_door (l r : Value) (z : Int) (w : World)
    (h : Calls Tryz.prog 205 #[l, r, .func (.func 206) #[] #[], .func (.func 207) #[] #[], .func (.func 136) #[] #[], .func (.func 209) #[] #[], .func (.func 210) #[] #[], .func (.func 211) #[] #[], .func (.func 213) #[] #[]] w fun e w' => ∃ v, e = .returned v ∧ v = .int .i64 z ∧ Below w.heap.size w w') :
    Calls Tryz.prog 143 #[l, r] w fun e w' => e = .returned (.int .i64 z) ∧ Below w.heap.size w w' := by
  have C := Lib.hid h
  clear h
  go_enter Tryz.func143, Tryz.ntmps143
  go_wp2_with fail
  refine C.out.mono ?_
  rintro e w1 ⟨v, rfl, rfl, hb⟩
  go_wp2_with fail
  go_ret
  exact ⟨rfl, hb⟩

theorem run_look_plain {P : Program} {mty kt et : TypeId} {w : World} {r : Nat} {s : ByteArray} {es : Array MapEntry} {clock : Nat} {j : Nat} {c : Value} (hm : P.underlying mty = some (.map kt et)) (hk : P.underlying kt = some .string) (hb : w.heap[r]? = some (.map es clock))
    (hf : Instr.findNow .string (.string s) es.toList 0 = some (some (j, c))) :
    (Instr.lookup mty (.map (some r)) (.string s) false).run P w = .ok c w := by
  have hc : ∀ e, (Instr.checkKey e 10000 kt (.string s)).run P w = .ok () w := fun e => MapKept.run_checkKey (k := .string s) hk (by simp [MapKept.IsKey]) e 9999
  simp [Instr.lookup, run_underlying hm, MapKept.run_getObj_map hb, hc, MapKept.run_findKey hk hf, Result.andThen]

/-- The order of two lists, as the package's function for lists gives it. -/
def LstC (l' : List JV) : Prop := ∀ (l : List JV) (b b' n n' : Nat) (cs cs' : List Value) (T T' : TypeId) (w : World), GoodL l → ShortL l → l.length = n → l'.length = n' → n ≤ 9000000000000 → n' ≤ 9000000000000 → b < w.heap.size → b' < w.heap.size →
  w.heap[b]? = some (.cells (List.toArray cs) T (0, 0)) → w.heap[b']? = some (.cells (List.toArray cs') T' (0, 0)) → GVals w 0 w.heap.size l cs → GVals w 0 w.heap.size l' cs' →
  Calls Tryz.prog 210 #[.slice (some ⟨b, 0, none⟩) n n, .slice (some ⟨b', 0, none⟩) n' n'] w fun e w' => ∃ v, e = .returned v ∧ v = .int .i64 (ordL l l') ∧ Below w.heap.size w w'
/-- The order of two maps likewise. -/
def MpC (ks' : List ByteArray) (vs' : List JV) : Prop := ∀ (ks : List ByteArray) (vs : List JV) (b b' : Nat) (es es' : List MapEntry) (w : World), GoodL vs → ShortL vs → (∀ k ∈ ks, k.size ≤ 140737488351232) → ks.length = vs.length → Rising none ks → es.length ≤ 9000000000000 → es'.length ≤ 9000000000000 → b < w.heap.size → b' < w.heap.size →
  w.heap[b]? = some (.map (List.toArray es) es.length) → w.heap[b']? = some (.map (List.toArray es') es'.length) → es.map (·.key) = ks.map Value.string → es'.map (·.key) = ks'.map Value.string → es.map (·.born) = List.range es.length → es'.map (·.born) = List.range es'.length →
  GVals w 0 w.heap.size vs (es.map (·.val)) → GVals w 0 w.heap.size vs' (es'.map (·.val)) →
  Calls Tryz.prog 211 #[.map (some b), .map (some b')] w fun e w' => ∃ v, e = .returned v ∧ v = .int .i64 (if ordK ks ks' = 0 then ordL vs vs' else ordK ks ks') ∧ Below w.heap.size w w'

theorem ord_of (k' h' : Int) (t' : ByteArray) (l' : List JV) (ks' : List ByteArray) (vs' : List JV) (HL : k' = 5 → LstC l') (HM : k' = 6 → MpC ks' vs') : OrdC (.mk k' h' t' l' ks' vs') := by
  intro x lv rv w hx hy gx gy sx sy
  obtain ⟨k, h, t, l, ks, vs⟩ := x
  obtain ⟨x1, x2, x3, x4, x5, x6, x7, x8, x9, x10, x11⟩ := gx.head
  obtain ⟨y1, y2, y3, y4, y5, y6, y7, y8, y9, y10, y11⟩ := gy.head
  unfold Short at sx sy
  refine ord_door lv rv _ w ?_
  by_cases hc : k ≠ k' ∨ k ≤ 2
  · rw [ordT_ne hc]
    refine sx_fall 213 enters213 lv rv _ _ hx.shp hy.shp (by simp only [JV.kind]; unfold cls; split <;> split <;> omega) _ _ _ _ _ _ w _ ((ord_fall hx.kd hy.kd w).mono ?_)
    rintro e w' ⟨v, rfl, rfl, rfl⟩
    exact ⟨_, rfl, rfl, Below.refl _ _⟩
  · obtain rfl : k = k' := by omega
    have h3 : k = 3 ∨ k = 4 ∨ k = 5 ∨ k = 6 := by omega
    rcases h3 with rfl | rfl | rfl | rfl
    · rw [ordT_num]
      rcases grep_num hx with ⟨n, e1, e2, e3, rfl⟩ | ⟨e1, e2, e3, rfl⟩ <;> rcases grep_num hy with ⟨n', f1, f2, f3, rfl⟩ | ⟨f1, f2, f3, rfl⟩
      · refine sx_ii 206 enters206 n n' _ _ _ _ _ _ w _ ((ord_int n n' w).mono ?_)
        rintro e w' ⟨rfl, rfl⟩
        refine ⟨_, rfl, ?_, Below.refl _ _⟩
        have : sgn (n - n') = sgn (h - h') := by
          unfold sgn
          by_cases q : n - n' < 0
          · rw [if_pos q, if_pos (by omega)]
          · by_cases q2 : 0 < n - n'
            · rw [if_neg q, if_pos q2, if_neg (by omega), if_pos (by omega)]
            · rw [if_neg q, if_neg q2, if_neg (by omega), if_neg (by omega)]
        rw [this]
      · obtain ⟨i, hi⟩ := half_int n e2 e3
        obtain ⟨_, j, hj, hh⟩ := half_odd h' (by omega) f2 f3
        refine sx_if 207 enters207 n _ _ _ _ _ _ _ w _ ((ord_flo _ _ _ _ (order_half_lt hi hh (by omega)) (order_half hi hh (by omega)) (self_half hi) w).mono ?_)
        rintro e w' ⟨v, rfl, rfl, rfl⟩
        exact ⟨_, rfl, by rw [e1], Below.refl _ _⟩
      · obtain ⟨i, hi⟩ := half_int n' f2 f3
        obtain ⟨_, j, hj, hh⟩ := half_odd h (by omega) e2 e3
        refine sx_fi 207 enters207 _ n' _ _ _ _ _ _ w _ ((ord_flo _ _ _ _ (order_half_lt hh hi (by omega)) (order_half hh hi (by omega)) (self_half hh) w).mono ?_)
        rintro e w' ⟨v, rfl, rfl, rfl⟩
        exact ⟨_, rfl, by rw [f1], Below.refl _ _⟩
      · obtain ⟨_, j, hj, hh⟩ := half_odd h (by omega) e2 e3
        obtain ⟨_, j2, hj2, hh2⟩ := half_odd h' (by omega) f2 f3
        refine sx_ff 207 enters207 _ _ _ _ _ _ _ _ w _ ((ord_flo _ _ _ _ (order_half_lt hh hh2 (by omega)) (order_half hh hh2 (by omega)) (self_half hh) w).mono ?_)
        rintro e w' ⟨v, rfl, rfl, rfl⟩
        exact ⟨_, rfl, rfl, Below.refl _ _⟩
    · rw [ordT_str]
      obtain ⟨e1, rfl⟩ := grep_text hx
      obtain ⟨f1, rfl⟩ := grep_text hy
      refine sx_ss 209 enters209 t t' _ _ _ _ _ _ w _ ((ord_str t t' w).mono ?_)
      rintro e w' ⟨v, rfl, rfl, rfl⟩
      exact ⟨_, rfl, rfl, Below.refl _ _⟩
    · rw [ordT_list]
      obtain ⟨b, cs, T, a1, rfl, a2, a3, a4⟩ := grep_list hx
      obtain ⟨b', cs', T', a1', rfl, a2', a3', a4'⟩ := grep_list hy
      exact sx_ll 210 enters210 _ _ _ _ _ _ _ _ _ _ _ _ w _ (HL rfl l b b' _ _ cs cs' T T' w x10 sx.2.2.1 rfl rfl a2 a2' a1 a1' a3 a3' a4 a4')
    · rw [ordT_map]
      obtain ⟨b, es, a1, rfl, a2, a3, a4, a5, a6⟩ := grep_map hx
      obtain ⟨b', es', a1', rfl, a2', a3', a4', a5', a6'⟩ := grep_map hy
      exact sx_mm 211 enters211 _ _ _ _ _ _ _ _ w _ (HM rfl ks vs b b' es es' w x11 sx.2.2.2 sx.2.1 x4 x9 a3 a3' a1 a1' a2 a2' a4 a4' a5 a5' a6 a6')

theorem ord_text (k : ByteArray) : OrdC (textT k) := ord_of 4 0 k [] [] [] (fun h => absurd h (by decide)) (fun h => absurd h (by decide))
theorem good_text (k : ByteArray) : Good (textT k) := by
  unfold textT Good GoodL Rising
  refine ⟨by simp [JV.headOk], by simp [JV.halfOk], trivial, trivial, trivial⟩
theorem good_texts : ∀ ks : List ByteArray, GoodL (ks.map textT)
  | [] => by unfold GoodL; trivial
  | k :: r => by
    rw [List.map_cons]
    unfold GoodL
    exact ⟨good_text k, good_texts r⟩
theorem short_texts {ks : List ByteArray} (hs : ∀ k ∈ ks, k.size ≤ 140737488351232) : ShortL (ks.map textT) := ShortL.of fun x hx => by
  obtain ⟨k, hk, rfl⟩ := List.mem_map.1 hx
  unfold textT Short ShortL
  exact ⟨hs k hk, by simp, trivial, trivial⟩
theorem ord_keys {ks' : List ByteArray} (hs' : ∀ k ∈ ks', k.size ≤ 140737488351232) : OrdC (keysT ks') := ord_of 5 0 ⟨#[]⟩ _ [] [] (fun _ => fun l b b' n n' cs cs' T T' w gl sl h1 h2 h3 h4 h5 h6 h7 h8 h9 h10 =>
  ord_list l _ (fun y hy => by obtain ⟨k, _, rfl⟩ := List.mem_map.1 hy; exact ord_text k) gl (good_texts ks') sl (short_texts hs') b b' n n' cs cs' T T' w h1 h2 h3 h4 h5 h6 h7 h8 h9 h10) (fun h => absurd h (by decide))
theorem good_keys (ks : List ByteArray) : Good (keysT ks) := by
  unfold keysT Good GoodL Rising
  refine ⟨by simp [JV.headOk], by simp [JV.halfOk], trivial, ?_, trivial⟩
  have := good_texts ks
  unfold GoodL at this
  exact this
theorem short_keys {ks : List ByteArray} (hs : ∀ k ∈ ks, k.size ≤ 140737488351232) : Short (keysT ks) := by
  unfold keysT Short
  exact ⟨by decide, by simp, short_texts hs, by unfold ShortL; trivial⟩

set_option maxRecDepth 100000 in
set_option maxHeartbeats 8000000 in
theorem ord_map (ks' : List ByteArray) (vs' : List JV) (ih : ∀ y ∈ vs', OrdC y) (gv' : GoodL vs') (sv' : ShortL vs') (hs' : ∀ k ∈ ks', k.size ≤ 140737488351232) (hl' : ks'.length = vs'.length) (hr' : Rising none ks') : MpC ks' vs' := by
  intro ks vs b b' es es' w gv sv hs hl hr hm hm' hb hb' hc hc' hk hk' ho ho' hv hv'
  obtain ⟨zz, hzz⟩ : ∃ z, (if ordK ks ks' = 0 then ordL vs vs' else ordK ks ks') = z := ⟨_, rfl⟩
  rw [hzz]
  have HZZ := Lib.hid hzz
  clear hzz
  obtain ⟨n, hn⟩ : ∃ n, es.length = n := ⟨_, rfl⟩
  obtain ⟨n', hn'⟩ : ∃ n', es'.length = n' := ⟨_, rfl⟩
  have hlk : ks.length = n := by have := congrArg List.length hk; simp at this; omega
  have hlk' : ks'.length = n' := by have := congrArg List.length hk'; simp at this; omega
  rw [hn] at hc hm
  rw [hn'] at hc' hm'
  have K1 := Lib.hid (funcKeys_walk b n ks es w hb hc hn hk ho hr hm)
  have K2 := Lib.hid (fun W h1 h2 => funcKeys_walk b' n' ks' es' W h1 h2 hn' hk' ho' hr' hm')
  have K3 := Lib.hid (fun W l r a1 a2 => ord_keys hs' (keysT ks) l r W a1 a2 (good_keys ks) (good_keys ks') (short_keys hs) (short_keys hs'))
  have HT := Lib.hid (show ordT (keysT ks) (keysT ks') = ordK ks ks' by unfold keysT; rw [ordT_list, ordL_texts])
  have HC := Lib.hid hc
  have HC' := Lib.hid hc'
  have HLK := Lib.hid hlk
  have HLK' := Lib.hid hlk'
  have HL := Lib.hid hl
  have HL' := Lib.hid hl'
  have HK := Lib.hid hk
  have HK' := Lib.hid hk'
  have HV := Lib.hid hv
  have HV' := Lib.hid hv'
  clear hn hn' hc hc' hlk hlk' hl hl' hk hk' ho ho' hv hv'
  go_enter Tryz.func211, Tryz.ntmps211
  go_wp2_with fail
  refine K1.out.mono ?_
  rintro e w1 ⟨rfl, hg1, hb1, hlt1⟩
  have HG1 := Lib.hid hg1
  clear hg1
  go_wp2_with fail
  refine (K2.out w1 (by omega) (kept_below hb1 hb' HC'.out)).mono ?_
  rintro e w2 ⟨rfl, hg2, hb2, hlt2⟩
  have hB2 : Below w.heap.size w w2 := hb1.trans (hb2.mono (by omega))
  have hgk := keysT_rep HLK.out hm hs (show w.heap.size < w2.heap.size by omega) (kept_below hb2 (by omega) HG1.out)
  have hgk' := keysT_rep HLK'.out hm' hs' (show w1.heap.size < w2.heap.size by omega) hg2
  have c3 := K3.out w2 _ _ hgk hgk'
  rw [HT.out] at c3
  have HG2 := Lib.hid (kept_below hb2 (by omega) HG1.out)
  clear hg2 hgk hgk' K1 K2 K3 HG1 HT
  by_cases hz : ordK ks ks' = 0
  · rw [hz] at c3
    have HZ := Lib.hid (show ordL vs vs' = zz by rw [← HZZ.out, if_pos hz])
    clear HZZ
    have C3 := Lib.hid c3
    clear c3
    have hke := ordK_eq hz
    subst hke
    have hnn : n = n' := by rw [← HLK.out, ← HLK'.out]
    subst hnn
    clear hz
    have HR := Lib.hid hr
    clear hr hr'
    go_wp2_with fail
    refine C3.out.mono ?_
    rintro e w3 ⟨rfl, hb3⟩
    have hB3 : Below w.heap.size w w3 := hB2.trans (hb3.mono (by omega))
    have HG3 := Lib.hid (kept_below hb3 (by omega) HG2.out)
    have hsw3 : w.heap.size < w3.heap.size := by have := hb3.size; omega
    clear C3 HG2 hb3 hB2 hb2 hb1
    go_wp2_with fail
    go_loopw [26] (fun i wr => ∃ j : Nat, j ≤ n ∧ i = .int .i64 j ∧ ordL vs vs' = ordL (vs.drop j) (vs'.drop j) ∧ Below w3.heap.size w3 wr) (fun i _ => n - (intOf i).toNat)
    case atStart => exact ⟨0, Nat.zero_le _, rfl, by simp, Below.refl _ _⟩
    case round =>
      obtain ⟨j, hj, rfl, hjt, hbr⟩ := hrel
      obtain ⟨wo, rfl⟩ : ∃ wo, wo = wr := ⟨_, rfl⟩
      have hBw : Below w.heap.size w wo := hB3.trans (hbr.mono (by omega))
      by_cases hjn : j < n
      · have hjk : j < ks.length := by rw [HLK.out]; exact hjn
        have hjl : j < vs.length := by rw [← HL.out]; exact hjk
        have hjl' : j < vs'.length := by rw [← HL'.out]; exact hjk
        have hcell : wo.cell? ⟨w.heap.size, j, none⟩ = some (.iface 9 (.string ks[j])) := by
          have := kept_below hbr hsw3 HG3.out
          simp [World.cell?, this, hjk]
        have hst := ordL_step hjl hjl'
        have hsw : w3.heap.size ≤ wo.heap.size := hbr.size
        have f1 := find_look ks[j] ks vs es 0 HK.out HV.out HL.out
        have f2 := find_look ks[j] ks vs' es' 0 HK'.out HV'.out HL'.out
        rw [getV_at HR.out j hjk hjl] at f1
        rw [getV_at HR.out j hjk hjl'] at f2
        obtain ⟨y1, c1, m1, e1, hf1, hg1⟩ := f1.resolve_left (fun h => by cases h.1)
        obtain ⟨y2, c2, m2, e2, hf2, hg2⟩ := f2.resolve_left (fun h => by cases h.1)
        obtain rfl : vs[j] = y1 := by simpa using e1
        obtain rfl : vs'[j] = y2 := by simpa using e2
        have hl1 := fun dd os => run_look_plain (P := Tryz.prog) (w := Sort.grow (redrawn wo dd) os) Tryz.underlying83 Tryz.underlying9 (((below_regrown wo dd os).block b (by omega)).trans (kept_below hBw hb HC.out)) (by simpa using hf1)
        have hl2 := fun dd os => run_look_plain (P := Tryz.prog) (w := Sort.grow (redrawn wo dd) os) Tryz.underlying83 Tryz.underlying9 (((below_regrown wo dd os).block b' (by omega)).trans (kept_below hBw hb' HC'.out)) (by simpa using hf2)
        have ci := fun dd os => ih vs'[j] (List.getElem_mem hjl') vs[j] c1 c2 (Sort.grow (redrawn wo dd) os) (hg1.below (hBw.trans ((below_regrown wo dd os).mono (by omega))) (by have := (below_regrown wo dd os).size; omega))
          (hg2.below (hBw.trans ((below_regrown wo dd os).mono (by omega))) (by have := (below_regrown wo dd os).size; omega)) (gv.get _ (List.getElem_mem hjl)) (gv'.get _ (List.getElem_mem hjl')) (sv.get _ (List.getElem_mem hjl)) (sv'.get _ (List.getElem_mem hjl'))
        generalize ordT vs[j] vs'[j] = q at *
        generalize ks[j] = key at *
        have CI := Lib.hid ci
        clear ci f1 f2 e1 e2 hf1 hf2 hg1 hg2
        by_cases hq : q = 0
        · subst hq
          rw [if_pos rfl] at hst
          have HS := Lib.hid (hjt.trans hst)
          clear hst hjt
          go_upto_region 8 with (fail)
          refine wp_region_quiet_below (by kernel_rfl) (by kernel_rfl) ?_
          repeat (go_big_quiet_step (first | (go_at_call 143; exact Calls.regrown_of (CI.out _ _))))
          refine wpQuiet_nil ?_
          intro w' hw'
          obtain ⟨⟨dq, osq⟩, rfl⟩ := hw'
          have hb4 : Below w3.heap.size w3 (Sort.grow (redrawn wo dq) osq) := hbr.trans ((below_regrown wo dq osq).mono hsw)
          clear hl1 hl2 hcell
          go_wp2_with fail
          exact ⟨⟨j + 1, by omega, by go_num, HS.out, hb4⟩, by simp [intOf]; omega⟩
        · rw [if_neg hq] at hst
          have HS := Lib.hid (hjt.trans hst)
          have hqb : (q != 0) = true := by simpa using hq
          clear hst hjt hq
          go_upto_region 8 with (fail)
          refine wp_region_quiet_below (by kernel_rfl) (by kernel_rfl) ?_
          repeat (go_big_quiet_step (first | (go_at_call 143; exact Calls.regrown_of (CI.out _ _))))
          refine wpQuiet_nil ?_
          intro w' hw'
          obtain ⟨⟨dq, osq⟩, rfl⟩ := hw'
          have hb4 : Below w.heap.size w (Sort.grow (redrawn wo dq) osq) := hBw.trans ((below_regrown wo dq osq).mono (by omega))
          clear hl1 hl2 hcell
          go_wp2_with fail
          try rw [Exit.noGoto_ret]
          go_ret
          exact ⟨_, rfl, by rw [← HZ.out, HS.out]; rfl, hb4⟩
      · have ej : j = n := by omega
        rw [ordL_end (by rw [← HL.out, HLK.out]; omega) (by rw [← HL.out, HLK.out]; omega) (by rw [← HL'.out, HLK.out]; omega), ← HL.out, ← HL'.out, Int.sub_self, sgn_z0] at hjt
        have HJ := Lib.hid hjt
        clear hjt
        go_wp2_with fail
        try rw [Exit.noGoto_ret]
        go_ret
        exact ⟨_, rfl, by rw [← HZ.out, HJ.out]; rfl, hBw⟩
  · have hz2 : ordK ks ks' = zz := by rw [← HZZ.out, if_neg hz]
    clear HZZ
    rw [hz2] at c3 hz
    clear hz2
    have hzb : (zz != 0) = true := by simpa using hz
    have C3 := Lib.hid c3
    clear c3 hz
    go_wp2_with fail
    refine C3.out.mono ?_
    rintro e w3 ⟨rfl, hb3⟩
    have hB3 : Below w.heap.size w w3 := hB2.trans (hb3.mono (by omega))
    go_wp2_with fail
    try rw [Exit.noGoto_ret]
    go_ret
    exact ⟨_, rfl, rfl, hB3⟩
end Go.Proofs.YtmjegeipnaalnaaGreatDoor
