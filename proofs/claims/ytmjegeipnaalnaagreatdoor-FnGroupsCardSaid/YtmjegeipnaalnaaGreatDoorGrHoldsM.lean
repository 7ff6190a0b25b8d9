/- One map holds another, and all other kinds: the walk of the specification's function, for every value. One value holds another: the specification's function, for all right values; and its answer as the reference gives it. What the reference says of containment: a boolean as a value, the call by name; nothing of a right value is vague. The thin package's containment: a boolean as an answer, held against the reference's. -/
import Derived.Test.YtmjegeipnaalnaaGreatDoorGrSameN
import Derived.Test.YtmjegeipnaalnaaGreatDoorGrMapW
import Derived.Test.YtmjegeipnaalnaaGreatDoorGrConL

/- One map holds another, and all other kinds: the walk of the specification's function, for every value. -/
namespace Go.Proofs.YtmjegeipnaalnaaGreatDoor
open Go.RowKit

theorem holdsM_append (ks : List ByteArray) (vs : List JV) : ∀ (a : List ByteArray) (b : List JV) (a' : List ByteArray) (b' : List JV), a.length = b.length → holdsM ks vs (a ++ a') (b ++ b') = (holdsM ks vs a b && holdsM ks vs a' b')
  | [], [], a', b', _ => by simp [holdsM]
  | [], _ :: _, _, _, h => absurd h (by simp)
  | _ :: _, [], _, _, h => absurd h (by simp)
  | k :: a, y :: b, a', b', h => by
    rw [List.cons_append, List.cons_append, holdsM_cons, holdsM_cons, holdsM_append ks vs a b a' b' (by simpa using h), Bool.and_assoc]
theorem holdsM_take (ks : List ByteArray) (vs : List JV) (r : List ByteArray) (s : List JV) (j : Nat) (h1 : j < r.length) (h2 : j < s.length) (h : holdsM ks vs (r.take j) (s.take j) = true) : holdsM ks vs (r.take (j + 1)) (s.take (j + 1)) = passV ks vs r[j] s[j] := by
  rw [List.take_succ_eq_append_getElem h1, List.take_succ_eq_append_getElem h2, holdsM_append _ _ _ _ _ _ (by simp; omega), h, holdsM_cons]
  simp [holdsM]

set_option maxRecDepth 100000 in
set_option maxHeartbeats 8000000 in
theorem holds_map (h h' : Int) (t t' : ByteArray) (l l' vs vs' : List JV) (ks ks' : List ByteArray) (ih : ∀ y ∈ vs', HoldsC y) (vx vy : Value) (w : World) (hx : JVal w w.heap.size (.mk 6 h t l ks vs) vx) (hy : JVal w w.heap.size (.mk 6 h' t' l' ks' vs') vy)
    (gv : GoodL vs) (gv' : GoodL vs') (hkv : ks.length = vs.length) (hkv' : ks'.length = vs'.length) (hris : Rising none ks) :
    Calls Tryz.prog 115 #[vx, vy] w fun e w' => e = .returned (.bool (holdsM ks vs ks' vs')) ∧ Below w.heap.size w w' := by
  obtain ⟨vl, vk, vv, rfl, _, _, _, _, ⟨A2, c2, rfl, ha1, ha2, hK⟩, ⟨A3, c3, rfl, hb1, hb2, hV⟩⟩ := hx.laid
  obtain ⟨vl', vk', vv', rfl, _, _, _, _, ⟨A2', c2', rfl, ha1', ha2', hK'⟩, ⟨A3', c3', rfl, hb1', hb2', hV'⟩⟩ := hy.laid
  clear hx hy
  obtain ⟨hX, hY⟩ := two_new w (.cells #[.int .i64 6, .int .i64 h, .string t, vl, .slice A2 ks.length c2, .slice A3 vs.length c3] 26) (.cells #[.int .i64 6, .int .i64 h', .string t', vl', .slice A2' ks'.length c2', .slice A3' vs'.length c3'] 26)
  have hB := ((Below.refl w.heap.size w).alloc (Nat.le_refl _) (.cells #[.int .i64 6, .int .i64 h, .string t, vl, .slice A2 ks.length c2, .slice A3 vs.length c3] 26)).alloc (by simp) (.cells #[.int .i64 6, .int .i64 h', .string t', vl', .slice A2' ks'.length c2', .slice A3' vs'.length c3'] 26)
  have hsz : w.heap.size + 2 ≤ ((w.alloc (.cells #[.int .i64 6, .int .i64 h, .string t, vl, .slice A2 ks.length c2, .slice A3 vs.length c3] 26)).alloc (.cells #[.int .i64 6, .int .i64 h', .string t', vl', .slice A2' ks'.length c2', .slice A3' vs'.length c3'] 26)).heap.size := by simp
  have HKV := Lib.hid hkv
  have HKV' := Lib.hid hkv'
  clear hkv hkv'
  generalize hnk : ks.length = nk at *
  generalize hnv : vs.length = nv at *
  generalize hnk' : ks'.length = nk' at *
  generalize hnv' : vs'.length = nv' at *
  have HNK := Lib.hid hnk
  have HNV := Lib.hid hnv
  have HNK' := Lib.hid hnk'
  have HNV' := Lib.hid hnv'
  have HK := Lib.hid hK
  have HV := Lib.hid hV
  have HK' := Lib.hid hK'
  have HV' := Lib.hid hV'
  clear hnk hnv hnk' hnv' hK hV hK' hV'
  go_enter Tryz.func115, Tryz.ntmps115
  go_upto_region 1 with (fail)
  generalize ((w.alloc (.cells #[.int .i64 6, .int .i64 h, .string t, vl, .slice A2 nk c2, .slice A3 nv c3] 26)).alloc (.cells #[.int .i64 6, .int .i64 h', .string t', vl', .slice A2' nk' c2', .slice A3' nv' c3'] 26)) = w2 at *
  obtain ⟨p0, p1, p2, p3, p4, p5, q0, q1, q2, q3, q4, q5⟩ := boxes12 (Below.refl _ w2) hX hY
  go_wp2_with fail
  go_loopw [63] (fun i wr => ∃ j : Nat, j ≤ nk' ∧ i = .int .i64 j ∧ holdsM ks vs (ks'.take j) (vs'.take j) = true ∧ Below (w.heap.size + 2) w2 wr) (fun i _ => nk' - (intOf i).toNat)
  case atStart => exact ⟨0, Nat.zero_le _, rfl, by simp [holdsM], Below.refl _ _⟩
  case round =>
    obtain ⟨j, hj, rfl, hjt, hbr⟩ := hrel
    obtain ⟨wo, rfl⟩ : ∃ wo, wo = wr := ⟨_, rfl⟩
    obtain ⟨p0, p1, p2, p3, p4, p5, q0, q1, q2, q3, q4, q5⟩ := boxes12 hbr hX hY
    by_cases hjn : j < nk'
    · have hjl : j < ks'.length := by rw [HNK'.out]; exact hjn
      have hjv : j < vs'.length := by rw [HNV'.out, ← HKV'.out]; exact hjn
      have hjn' : j < nv' := by rw [← HKV'.out]; exact hjn
      obtain ⟨b1, o1, rfl, hJK⟩ : ∃ b o, A2' = some ⟨b, o, none⟩ ∧ SCells w w.heap.size ks' b o := by
        rcases HK'.out with h0 | h0
        · omega
        · exact h0
      obtain ⟨b2, o2, rfl, hJV⟩ : ∃ b o, A3' = some ⟨b, o, none⟩ ∧ JCells w w.heap.size vs' b o := by
        rcases HV'.out with h0 | h0
        · omega
        · exact h0
      have hbw : Below w.heap.size w wo := hB.trans (hbr.mono (by omega))
      have hwo : w.heap.size + 2 ≤ wo.heap.size := Nat.le_trans hsz hbr.size
      obtain ⟨_, _, hkc⟩ := SCells.get ks' b1 o1 (SCells.below hbw (Nat.le_refl _) ks' b1 o1 hJK) j hjl
      obtain ⟨_, d0, d1, d2, d3, d4, d5, hRep, y0, y1, y2, y3, y4, y5⟩ := (JCells.below hbw (Nat.le_refl _) vs' b2 o2 hJV).at6 j hjv
      clear hJK hJV
      obtain ⟨k1, h1, t1, B1, n1, m1, B2, n2, m2, B3, n3, m3, rfl, rfl, rfl, rfl, rfl, rfl⟩ := hRep.shape
      have HR1 := Lib.hid hRep
      have hC : HoldsC vs'[j] := ih _ (List.getElem_mem hjv)
      have HC := Lib.hid hC
      have hG : Good vs'[j] := gv'.get _ (List.getElem_mem hjv)
      have HT := Lib.hid (holdsM_take ks vs ks' vs' j hjl hjv hjt)
      have HFB := Lib.hid (fun (e : passV ks vs ks'[j] vs'[j] = false) => holdsM_false (ks := ks) (vs := vs) (r := ks') (s := vs') j hjl hjv e)
      clear hRep hC
      have HAT := Lib.hid (getV_isAt ks'[j] hris (show ks.length = vs.length by rw [HNK.out, HNV.out]; exact HKV.out))
      generalize ks'[j] = key at *
      generalize vs'[j] = y at *
      have hS : ∀ d os, nk = 0 ∨ ∃ b o, A2 = some ⟨b, o, none⟩ ∧ SCells (Sort.grow (redrawn wo d) os) (Sort.grow (redrawn wo d) os).heap.size ks b o := by
        intro d os
        have hr := below_regrown wo d os
        rcases HK.out with h0 | ⟨b, o, h0, h2⟩
        · exact .inl h0
        · exact .inr ⟨b, o, h0, SCells.below (hbw.trans (hr.mono (by omega))) (by have := hr.size; omega) ks b o h2⟩
      have HS := Lib.hid hS
      clear hS
      have r0 := cell_regrown p0
      have r1 := cell_regrown p1
      have r2 := cell_regrown p2
      have r3 := cell_regrown p3
      have r4 := cell_regrown p4
      have r5 := cell_regrown p5
      have s5 := cell_regrown q5
      have z0 := cell_regrown y0
      have z1 := cell_regrown y1
      have z2 := cell_regrown y2
      have z3 := cell_regrown y3
      have z4 := cell_regrown y4
      have z5 := cell_regrown y5
      rcases HAT.out with ⟨hat, hpl, hgv⟩ | ⟨hat, hgv⟩
      · obtain ⟨i, hi⟩ : ∃ i, placeN ks key = i := ⟨_, rfl⟩
        have hiv : i < vs.length := by rw [← hi]; exact hpl
        have hin : i < nv := by rw [← HNV.out]; exact hiv
        obtain ⟨b3, o3, rfl, hJ⟩ : ∃ b o, A3 = some ⟨b, o, none⟩ ∧ JCells w w.heap.size vs b o := by
          rcases HV.out with h0 | h0
          · omega
          · exact h0
        obtain ⟨hb3, e0, e1, e2, e3, e4, e5, hRep, g0, g1, g2, g3, g4, g5⟩ := (JCells.below hbw (Nat.le_refl _) vs b3 o3 hJ).at6 i hiv
        clear hJ
        obtain ⟨k2, h2, t2, B4, n4, m4, B5, n5, m5, B6, n6, m6, rfl, rfl, rfl, rfl, rfl, rfl⟩ := hRep.shape
        have hps : passV ks vs key y = holdsV vs[i] y := by
          unfold passV; rw [hgv]; simp only [hi]
        have hgx : Good vs[i] := gv.get _ (List.getElem_mem hiv)
        have HR2 := Lib.hid hRep
        generalize vs[i] = x2 at *
        have CH := Lib.hid (fun d os => by
          have c := has_walk ks key (.int .i64 6) (.int .i64 h) (.string t) vl (.slice (some ⟨b3, o3, none⟩) nv c3) A2 nk c2 (Sort.grow (redrawn wo d) os) HNK.out.symm (by omega) (HS.out d os)
          rw [hat] at c
          exact c)
        have CG := Lib.hid (fun d os => get_walk ks key (.int .i64 6) (.int .i64 h) (.string t) vl A2 nk c2 nv c3 b3 o3 (Sort.grow (redrawn wo d) os) HNK.out.symm (by omega) (HS.out d os) (by omega) hat i hi hin
          k2 h2 t2 B4 n4 m4 B5 n5 m5 B6 n6 m6 (by have := (below_regrown wo d os).size; omega)
          (cell_regrown g0 d os) (cell_regrown g1 d os) (cell_regrown g2 d os) (cell_regrown g3 d os) (cell_regrown g4 d os) (cell_regrown g5 d os))
        have CC := Lib.hid (fun d os => HC.out x2 (.agg #[.int .i64 k2, .int .i64 h2, .string t2, .slice B4 n4 m4, .slice B5 n5 m5, .slice B6 n6 m6]) (.agg #[.int .i64 k1, .int .i64 h1, .string t1, .slice B1 n1 m1, .slice B2 n2 m2, .slice B3 n3 m3]) (Sort.grow (redrawn wo d) os)
          ⟨_, _, _, _, _, _, rfl, HR2.out.below ((below_regrown wo d os).mono (by omega)) (by have := (below_regrown wo d os).size; omega)⟩ ⟨_, _, _, _, _, _, rfl, HR1.out.below ((below_regrown wo d os).mono (by omega)) (by have := (below_regrown wo d os).size; omega)⟩ hgx hG)
        obtain ⟨z, hz⟩ : ∃ z, holdsV x2 y = z := ⟨_, rfl⟩
        rw [hz] at hps CC
        have HPS := Lib.hid hps
        clear hgv hps hRep g0 g1 g2 g3 g4 g5 hz hi
        go_upto_region 23 with (fail)
        refine wp_region_quiet_below (by kernel_rfl) (by kernel_rfl) ?_
        repeat (go_big_quiet_step (first
          | (go_at_call 109; exact Calls.regrown_of (CH.out _ _))
          | (go_at_call 110; exact Calls.regrown_of (CG.out _ _))
          | (go_at_call 115; exact Calls.regrown_of (CC.out _ _))))
        refine wpQuiet_nil ?_
        intro w' hw'
        obtain ⟨⟨dq, osq⟩, rfl⟩ := hw'
        cases z with
        | true =>
          go_wp2_with fail
          exact ⟨⟨j + 1, by omega, by go_num, by rw [HT.out, HPS.out], hbr.trans ((below_regrown wo dq osq).mono hwo)⟩, by simp [intOf]; omega⟩
        | false =>
          go_wp2_with fail
          go_ret
          refine ⟨?_, hbw.trans ((below_regrown wo dq osq).mono (by omega))⟩
          rw [HFB.out HPS.out]
          rfl
      · have CH := Lib.hid (fun d os => by
          have c := has_walk ks key (.int .i64 6) (.int .i64 h) (.string t) vl (.slice A3 nv c3) A2 nk c2 (Sort.grow (redrawn wo d) os) HNK.out.symm (by omega) (HS.out d os)
          rw [hat] at c
          exact c)
        have hps : passV ks vs key y = false := by unfold passV; rw [hgv]
        have HFF := Lib.hid (HFB.out hps)
        clear hgv hps
        go_upto_region 23 with (fail)
        refine wp_region_quiet_below (by kernel_rfl) (by kernel_rfl) ?_
        repeat (go_big_quiet_step (first
          | (go_at_call 109; exact Calls.regrown_of (CH.out _ _))))
        refine wpQuiet_nil ?_
        intro w' hw'
        obtain ⟨⟨dq, osq⟩, rfl⟩ := hw'
        go_wp2_with fail
        go_ret
        refine ⟨?_, hbw.trans ((below_regrown wo dq osq).mono (by omega))⟩
        rw [HFF.out]
        rfl
    · go_wp2_with fail
      go_ret
      refine ⟨?_, hB.trans (hbr.mono (by omega))⟩
      have e : ks'.take j = ks' := List.take_of_length_le (by rw [HNK'.out]; omega)
      have e2 : vs'.take j = vs' := List.take_of_length_le (by rw [HNV'.out, ← HKV'.out]; omega)
      rw [e, e2] at hjt
      rw [hjt]
      rfl
end Go.Proofs.YtmjegeipnaalnaaGreatDoor

/- One value holds another: the specification's function, for all right values; and its answer as the reference gives it. -/
namespace Go.Proofs.YtmjegeipnaalnaaGreatDoor
open Go.RowKit

set_option maxRecDepth 100000 in
set_option maxHeartbeats 4000000 in
theorem holds_ne (k k' h h' : Int) (t t' : ByteArray) (a0 a1 a2 b0 b1 b2 : Value) (w : World) (hk : k ≠ k') :
    Calls Tryz.prog 115 #[.agg #[.int .i64 k, .int .i64 h, .string t, a0, a1, a2], .agg #[.int .i64 k', .int .i64 h', .string t', b0, b1, b2]] w fun e w' => e = .returned (.bool false) ∧ Below w.heap.size w w' := by
  have hB := ((Below.refl w.heap.size w).alloc (Nat.le_refl _) (.cells #[.int .i64 k, .int .i64 h, .string t, a0, a1, a2] 26)).alloc (by simp) (.cells #[.int .i64 k', .int .i64 h', .string t', b0, b1, b2] 26)
  go_enter Tryz.func115, Tryz.ntmps115
  go_wp2_with fail
  go_ret
  exact ⟨rfl, hB⟩
set_option maxRecDepth 100000 in
set_option maxHeartbeats 4000000 in
theorem holds_text (h h' : Int) (t t' : ByteArray) (a0 a1 a2 b0 b1 b2 : Value) (w : World) (h1 : t.size ≤ 140737488351232) (h2 : t'.size ≤ 140737488351232) :
    Calls Tryz.prog 115 #[.agg #[.int .i64 4, .int .i64 h, .string t, a0, a1, a2], .agg #[.int .i64 4, .int .i64 h', .string t', b0, b1, b2]] w fun e w' => e = .returned (.bool (decide (0 ≤ findB t t'))) ∧ Below w.heap.size w w' := by
  have hB := ((Below.refl w.heap.size w).alloc (Nat.le_refl _) (.cells #[.int .i64 4, .int .i64 h, .string t, a0, a1, a2] 26)).alloc (by simp) (.cells #[.int .i64 4, .int .i64 h', .string t', b0, b1, b2] 26)
  go_enter Tryz.func115, Tryz.ntmps115
  go_wp2_with (go_at_call 117; refine (find_walk t t' _ h1 h2).mono ?_; rintro e w1 ⟨rfl, rfl⟩)
  go_ret
  exact ⟨rfl, hB⟩
set_option maxRecDepth 100000 in
set_option maxHeartbeats 4000000 in
theorem holds_rest (k h h' : Int) (t t' : ByteArray) (a0 a1 a2 b0 b1 b2 : Value) (w : World) (h0 : 0 ≤ k) (h2 : k ≤ 3) (hx1 : -1152921504606846976 ≤ h) (hx2 : h ≤ 1152921504606846976) (hy1 : -1152921504606846976 ≤ h') (hy2 : h' ≤ 1152921504606846976) (hz : k ≠ 3 → h = 0 ∧ h' = 0) :
    Calls Tryz.prog 115 #[.agg #[.int .i64 k, .int .i64 h, .string t, a0, a1, a2], .agg #[.int .i64 k, .int .i64 h', .string t', b0, b1, b2]] w fun e w' => e = .returned (.bool (h == h')) ∧ Below w.heap.size w w' := by
  have hB := ((Below.refl w.heap.size w).alloc (Nat.le_refl _) (.cells #[.int .i64 k, .int .i64 h, .string t, a0, a1, a2] 26)).alloc (by simp) (.cells #[.int .i64 k, .int .i64 h', .string t', b0, b1, b2] 26)
  have hk4 : k ≠ 4 := by omega
  have hk5 : k ≠ 5 := by omega
  have hk6 : k ≠ 6 := by omega
  have C := Lib.hid (fun W => Same_plain k h h' (.string t) a0 a1 a2 (.string t') b0 b1 b2 W h0 h2 hx1 hx2 hy1 hy2 hz)
  clear hz
  go_enter Tryz.func115, Tryz.ntmps115
  go_wp2_with (go_at_call 40; refine (C.out _).mono ?_; rintro e w1 ⟨rfl, hb⟩)
  go_ret
  exact ⟨rfl, hB.trans (hb.mono (by simp; omega))⟩

theorem holds_all : ∀ y, HoldsC y := by
  refine JV.ind fun k' h' t' l' ks' vs' ihl ihv => ?_
  intro x vx vy w hx hy gx gy
  obtain ⟨k, h, t, l, ks, vs⟩ := x
  obtain ⟨x1, x2, x3, x4, x5, x6, x7, x8, x9, x10, x11⟩ := gx.head
  obtain ⟨y1, y2, y3, y4, y5, y6, y7, y8, y9, y10, y11⟩ := gy.head
  by_cases hk : k = k'
  · subst hk
    by_cases h4 : k = 4
    · subst h4
      rw [holdsV_text]
      obtain ⟨_, _, _, rfl, _, _, ht, _⟩ := hx.laid
      obtain ⟨_, _, _, rfl, _, _, ht', _⟩ := hy.laid
      exact holds_text h h' t t' _ _ _ _ _ _ w ht ht'
    · by_cases h5 : k = 5
      · subst h5
        rw [holdsV_list]
        exact holds_list h h' t t' l l' vs vs' ks ks' ihl vx vy w hx hy x10 y10
      · by_cases h6 : k = 6
        · subst h6
          rw [holdsV_map]
          exact holds_map h h' t t' l l' vs vs' ks ks' ihv vx vy w hx hy x11 y11 x4 y4 x9
        · rw [holdsV_rest h4 h5 h6]
          obtain ⟨_, _, _, rfl, _⟩ := hx.laid
          obtain ⟨_, _, _, rfl, _⟩ := hy.laid
          exact holds_rest k h h' t t' _ _ _ _ _ _ w x1 (by omega) (by omega) (by omega) (by omega) (by omega) (fun hne => ⟨x3.resolve_left hne, y3.resolve_left hne⟩)
  · rw [holdsV_ne hk]
    obtain ⟨_, _, _, rfl, _⟩ := hx.laid
    obtain ⟨_, _, _, rfl, _⟩ := hy.laid
    exact holds_ne k k' h h' t t' _ _ _ _ _ _ w hk
end Go.Proofs.YtmjegeipnaalnaaGreatDoor

/- What the reference says of containment: a boolean as a value, the call by name; nothing of a right value is vague. -/
namespace Go.Proofs.YtmjegeipnaalnaaGreatDoor
open Go.RowKit

/-- A value that is its kind alone. -/
def kV (k : Int) : Value := .agg #[.int .i64 k, .int .i64 0, .string ⟨#[]⟩, .slice none 0 0, .slice none 0 0, .slice none 0 0]
def truthK (z : Bool) : Int := if z then 2 else 1

theorem three_new' (w : World) (A B C : Obj) : (((w.alloc A).alloc B).alloc C).heap[w.heap.size]? = some A ∧ (((w.alloc A).alloc B).alloc C).heap[w.heap.size + 1]? = some B ∧ (((w.alloc A).alloc B).alloc C).heap[w.heap.size + 2]? = some C := by
  have e2 : ((w.alloc A).alloc B).heap.size = w.heap.size + 2 := by simp
  obtain ⟨h1, h2⟩ := two_new w A B
  refine ⟨?_, ?_, ?_⟩
  · rw [Below.heap_alloc _ _ _ (by omega)]; exact h1
  · rw [Below.heap_alloc _ _ _ (by omega)]; exact h2
  · rw [← e2]; exact heap_alloc_new _ C

set_option maxRecDepth 100000 in
set_option maxHeartbeats 1000000 in
theorem Bool_walk (z : Bool) (w : World) : Calls Tryz.prog 31 #[.bool z] w fun e w' => e = .returned (kV (truthK z)) ∧ Below w.heap.size w w' := by
  have hX := heap_alloc_new w (.cells #[.int .i64 0, .int .i64 0, .string ⟨#[]⟩, .slice none 0 0, .slice none 0 0, .slice none 0 0] 26)
  have hB := (Below.refl w.heap.size w).alloc (Nat.le_refl _) (.cells #[.int .i64 0, .int .i64 0, .string ⟨#[]⟩, .slice none 0 0, .slice none 0 0, .slice none 0 0] 26)
  have hsz : w.heap.size < (w.alloc (.cells #[.int .i64 0, .int .i64 0, .string ⟨#[]⟩, .slice none 0 0, .slice none 0 0, .slice none 0 0] 26)).heap.size := by simp
  unfold kV
  cases z
  · rw [show truthK false = 1 from rfl]
    go_enter Tryz.func31, Tryz.ntmps31
    go_upto_region 1 with (fail)
    generalize w.alloc (.cells #[.int .i64 0, .int .i64 0, .string ⟨#[]⟩, .slice none 0 0, .slice none 0 0, .slice none 0 0] 26) = w1 at *
    obtain ⟨x0, x1, x2, x3, x4, x5⟩ := box6 hX
    obtain ⟨f0, f1, f2, f3, f4, f5, _⟩ := frozen7 hX
    have HB := Lib.hid (below_set6 hB (Nat.le_refl _) (.int .i64 1) (.int .i64 0) (.string ⟨#[]⟩) (.slice none 0 0) (.slice none 0 0) (.slice none 0 0))
    clear hB
    go_wp2
    refine bodyPost_ret (v := .agg #[.int .i64 1, .int .i64 0, .string ⟨#[]⟩, .slice none 0 0, .slice none 0 0, .slice none 0 0]) (by simp [results, Tryz.results31, go_sem, *]) rfl ⟨rfl, ?_⟩
    exact HB.out
  · rw [show truthK true = 2 from rfl]
    go_enter Tryz.func31, Tryz.ntmps31
    go_upto_region 1 with (fail)
    generalize w.alloc (.cells #[.int .i64 0, .int .i64 0, .string ⟨#[]⟩, .slice none 0 0, .slice none 0 0, .slice none 0 0] 26) = w1 at *
    obtain ⟨x0, x1, x2, x3, x4, x5⟩ := box6 hX
    obtain ⟨f0, f1, f2, f3, f4, f5, _⟩ := frozen7 hX
    have HB := Lib.hid (below_set6 hB (Nat.le_refl _) (.int .i64 2) (.int .i64 0) (.string ⟨#[]⟩) (.slice none 0 0) (.slice none 0 0) (.slice none 0 0))
    clear hB
    go_wp2
    refine bodyPost_ret (v := .agg #[.int .i64 2, .int .i64 0, .string ⟨#[]⟩, .slice none 0 0, .slice none 0 0, .slice none 0 0]) (by simp [results, Tryz.results31, go_sem, *]) rfl ⟨rfl, ?_⟩
    exact HB.out

/-- What the reference answers to containment: the answer's kind and how it ended. -/
def saidK (x y : JV) : Int := if x.kind = y.kind then truthK (holdsV x y) else 0
def saidHow (x y : JV) : Int := if x.kind = y.kind then 0 else 2

set_option maxRecDepth 100000 in
set_option maxHeartbeats 4000000 in
theorem contains_walk (x y : JV) (vx vy : Value) (w : World) (hx : JVal w w.heap.size x vx) (hy : JVal w w.heap.size y vy) (gx : Good x) (gy : Good y) :
    Calls Tryz.prog 67 #[vx, vy] w fun e w' => e = .returned (.tuple #[kV (saidK x y), .int .i64 (saidHow x y)]) ∧ Below w.heap.size w w' := by
  obtain ⟨k, h, t, l, ks, vs⟩ := x
  obtain ⟨k', h', t', l', ks', vs'⟩ := y
  obtain ⟨a0, a1, a2, rfl, _⟩ := hx.laid
  obtain ⟨b0, b1, b2, rfl, _⟩ := hy.laid
  obtain ⟨hA, hB, hC⟩ := three_new' w (.cells #[.int .i64 k, .int .i64 h, .string t, a0, a1, a2] 26) (.cells #[.int .i64 k', .int .i64 h', .string t', b0, b1, b2] 26) (.cells #[.int .i64 0, .int .i64 0, .string ⟨#[]⟩, .slice none 0 0, .slice none 0 0, .slice none 0 0] 26)
  have hw := (((Below.refl w.heap.size w).alloc (Nat.le_refl _) (.cells #[.int .i64 k, .int .i64 h, .string t, a0, a1, a2] 26)).alloc (by simp) (.cells #[.int .i64 k', .int .i64 h', .string t', b0, b1, b2] 26)).alloc (by simp; omega) (.cells #[.int .i64 0, .int .i64 0, .string ⟨#[]⟩, .slice none 0 0, .slice none 0 0, .slice none 0 0] 26)
  have hsz : w.heap.size + 2 < (((w.alloc (.cells #[.int .i64 k, .int .i64 h, .string t, a0, a1, a2] 26)).alloc (.cells #[.int .i64 k', .int .i64 h', .string t', b0, b1, b2] 26)).alloc (.cells #[.int .i64 0, .int .i64 0, .string ⟨#[]⟩, .slice none 0 0, .slice none 0 0, .slice none 0 0] 26)).heap.size := by simp
  have HALL := Lib.hid (holds_all (.mk k' h' t' l' ks' vs'))
  by_cases hk : k = k'
  · subst hk
    rw [show saidK (.mk k h t l ks vs) (.mk k h' t' l' ks' vs') = truthK (holdsV (.mk k h t l ks vs) (.mk k h' t' l' ks' vs')) from if_pos rfl, show saidHow (.mk k h t l ks vs) (.mk k h' t' l' ks' vs') = 0 from if_pos rfl]
    obtain ⟨z, hz⟩ : ∃ z, holdsV (.mk k h t l ks vs) (.mk k h' t' l' ks' vs') = z := ⟨_, rfl⟩
    rw [hz]
    have HZ := Lib.hid hz
    clear hz
    obtain ⟨kz, hkz⟩ : ∃ kz, truthK z = kz := ⟨_, rfl⟩
    rw [hkz]
    have HKZ := Lib.hid hkz
    clear hkz
    unfold kV
    go_enter Tryz.func67, Tryz.ntmps67
    go_upto_region 1 with (fail)
    generalize (((w.alloc (.cells #[.int .i64 k, .int .i64 h, .string t, a0, a1, a2] 26)).alloc (.cells #[.int .i64 k, .int .i64 h', .string t', b0, b1, b2] 26)).alloc (.cells #[.int .i64 0, .int .i64 0, .string ⟨#[]⟩, .slice none 0 0, .slice none 0 0, .slice none 0 0] 26)) = w1 at *
    obtain ⟨p0, p1, p2, p3, p4, p5⟩ := box6 hA
    obtain ⟨q0, q1, q2, q3, q4, q5⟩ := box6 hB
    have c := HALL.out (.mk k h t l ks vs) _ _ w1 (hx.below hw (by omega)) (hy.below hw (by omega)) gx gy
    rw [HZ.out] at c
    have C := Lib.hid c
    clear c HALL hx hy gx gy
    go_wp2_with fail
    refine C.out.mono ?_
    rintro e w2 ⟨rfl, hb⟩
    replace hC := kept_below hb (by omega) hC
    replace hw := hw.trans (hb.mono (by omega))
    have hsz2 : w.heap.size + 2 < w2.heap.size := by have := hb.size; omega
    clear p0 p1 p2 p3 p4 p5 q0 q1 q2 q3 q4 q5 hb hsz hA hB
    go_wp2_with fail
    refine (Bool_walk z w2).mono ?_
    rintro e w3 ⟨rfl, hb⟩
    rw [HKZ.out]
    replace hC := kept_below hb (by omega) hC
    replace hw := hw.trans (hb.mono (by omega))
    have hsz3 : w.heap.size + 2 < w3.heap.size := by have := hb.size; omega
    clear hb hsz2
    obtain ⟨x0, x1, x2, x3, x4, x5⟩ := box6 hC
    obtain ⟨f0, f1, f2, f3, f4, f5, _⟩ := frozen7 hC
    unfold kV
    have HB := Lib.hid (below_set6 hw (Nat.le_add_right _ 2) (.int .i64 kz) (.int .i64 0) (.string ⟨#[]⟩) (.slice none 0 0) (.slice none 0 0) (.slice none 0 0))
    clear hw
    go_wp2
    refine bodyPost_ret (v := .tuple #[.agg #[.int .i64 kz, .int .i64 0, .string ⟨#[]⟩, .slice none 0 0, .slice none 0 0, .slice none 0 0], .int .i64 0]) (by simp [results, Tryz.results67, go_sem, *]) rfl ⟨rfl, ?_⟩
    exact HB.out
  · rw [show saidK (.mk k h t l ks vs) (.mk k' h' t' l' ks' vs') = 0 from if_neg hk, show saidHow (.mk k h t l ks vs) (.mk k' h' t' l' ks' vs') = 2 from if_neg hk]
    unfold kV
    go_enter Tryz.func67, Tryz.ntmps67
    go_upto_region 1 with (fail)
    generalize (((w.alloc (.cells #[.int .i64 k, .int .i64 h, .string t, a0, a1, a2] 26)).alloc (.cells #[.int .i64 k', .int .i64 h', .string t', b0, b1, b2] 26)).alloc (.cells #[.int .i64 0, .int .i64 0, .string ⟨#[]⟩, .slice none 0 0, .slice none 0 0, .slice none 0 0] 26)) = w1 at *
    obtain ⟨p0, p1, p2, p3, p4, p5⟩ := box6 hA
    obtain ⟨q0, q1, q2, q3, q4, q5⟩ := box6 hB
    obtain ⟨x0, x1, x2, x3, x4, x5⟩ := box6 hC
    obtain ⟨f0, f1, f2, f3, f4, f5, _⟩ := frozen7 hC
    have HB := Lib.hid (below_set6 hw (Nat.le_add_right _ 2) (.int .i64 0) (.int .i64 0) (.string ⟨#[]⟩) (.slice none 0 0) (.slice none 0 0) (.slice none 0 0))
    clear hw HALL hx hy gx gy
    go_wp2
    refine bodyPost_ret (v := .tuple #[.agg #[.int .i64 0, .int .i64 0, .string ⟨#[]⟩, .slice none 0 0, .slice none 0 0, .slice none 0 0], .int .i64 2]) (by simp [results, Tryz.results67, go_sem, *]) rfl ⟨rfl, ?_⟩
    exact HB.out
end Go.Proofs.YtmjegeipnaalnaaGreatDoor

/- The thin package's containment: a boolean as an answer, held against the reference's. -/
namespace Go.Proofs.YtmjegeipnaalnaaGreatDoor
open Go.RowKit

/-- A right answer that is its kind alone. -/
def kR (k : Int) : Value := .agg #[.int .i64 k, .int .i64 0, .string ⟨#[]⟩, .slice none 0 0, .slice none 0 0, .slice none 0 0, .int .i64 0]

set_option maxRecDepth 100000 in
set_option maxHeartbeats 1000000 in
theorem fromGo_bool (z : Bool) (w : World) :
    Calls Tryz.prog 83 #[.iface 4 (.bool z)] w fun e w' => e = .returned (.tuple #[kV (truthK z), .bool true]) ∧ Below w.heap.size w w' := by
  have hX := heap_alloc_new w (.cells #[.int .i64 0, .int .i64 0, .string ⟨#[]⟩, .slice none 0 0, .slice none 0 0, .slice none 0 0] 26)
  have hB := (Below.refl w.heap.size w).alloc (Nat.le_refl _) (.cells #[.int .i64 0, .int .i64 0, .string ⟨#[]⟩, .slice none 0 0, .slice none 0 0, .slice none 0 0] 26)
  have hsz : w.heap.size < (w.alloc (.cells #[.int .i64 0, .int .i64 0, .string ⟨#[]⟩, .slice none 0 0, .slice none 0 0, .slice none 0 0] 26)).heap.size := by simp
  unfold kV
  cases z
  · rw [show truthK false = 1 from rfl]
    go_enter Tryz.func83, Tryz.ntmps83
    go_upto_region 1 with (fail)
    generalize w.alloc (.cells #[.int .i64 0, .int .i64 0, .string ⟨#[]⟩, .slice none 0 0, .slice none 0 0, .slice none 0 0] 26) = w1 at *
    obtain ⟨x0, x1, x2, x3, x4, x5⟩ := box6 hX
    obtain ⟨f0, f1, f2, f3, f4, f5, _⟩ := frozen7 hX
    have HB := Lib.hid (below_set6 hB (Nat.le_refl _) (.int .i64 1) (.int .i64 0) (.string ⟨#[]⟩) (.slice none 0 0) (.slice none 0 0) (.slice none 0 0))
    clear hB
    go_wp2
    refine bodyPost_ret (v := .tuple #[.agg #[.int .i64 1, .int .i64 0, .string ⟨#[]⟩, .slice none 0 0, .slice none 0 0, .slice none 0 0], .bool true]) (by simp [results, Tryz.results83, go_sem, *]) rfl ⟨rfl, ?_⟩
    exact HB.out
  · rw [show truthK true = 2 from rfl]
    go_enter Tryz.func83, Tryz.ntmps83
    go_upto_region 1 with (fail)
    generalize w.alloc (.cells #[.int .i64 0, .int .i64 0, .string ⟨#[]⟩, .slice none 0 0, .slice none 0 0, .slice none 0 0] 26) = w1 at *
    obtain ⟨x0, x1, x2, x3, x4, x5⟩ := box6 hX
    obtain ⟨f0, f1, f2, f3, f4, f5, _⟩ := frozen7 hX
    have HB := Lib.hid (below_set6 hB (Nat.le_refl _) (.int .i64 2) (.int .i64 0) (.string ⟨#[]⟩) (.slice none 0 0) (.slice none 0 0) (.slice none 0 0))
    clear hB
    go_wp2
    refine bodyPost_ret (v := .tuple #[.agg #[.int .i64 2, .int .i64 0, .string ⟨#[]⟩, .slice none 0 0, .slice none 0 0, .slice none 0 0], .bool true]) (by simp [results, Tryz.results83, go_sem, *]) rfl ⟨rfl, ?_⟩
    exact HB.out

theorem below_set7 {a w : World} {B g : Nat} (h : Below B a w) (hg : B ≤ g) (v0 v1 v2 v3 v4 v5 v6 : Value) :
    Below B a (((((((w.setCell ⟨g, 0, none⟩ v0).setCell ⟨g, 1, none⟩ v1).setCell ⟨g, 2, none⟩ v2).setCell ⟨g, 3, none⟩ v3).setCell ⟨g, 4, none⟩ v4).setCell ⟨g, 5, none⟩ v5).setCell ⟨g, 6, none⟩ v6) :=
  (below_set6 h hg v0 v1 v2 v3 v4 v5).setCell hg _

set_option maxRecDepth 100000 in
set_option maxHeartbeats 1000000 in
theorem result_bool (z : Bool) (w : World) :
    Calls Tryz.prog 42 #[.iface 4 (.bool z)] w fun e w' => e = .returned (kR (truthK z)) ∧ Below w.heap.size w w' := by
  have hX := heap_alloc_new w (.cells #[.int .i64 0, .int .i64 0, .string ⟨#[]⟩, .slice none 0 0, .slice none 0 0, .slice none 0 0, .int .i64 0] 34)
  have hB := (Below.refl w.heap.size w).alloc (Nat.le_refl _) (.cells #[.int .i64 0, .int .i64 0, .string ⟨#[]⟩, .slice none 0 0, .slice none 0 0, .slice none 0 0, .int .i64 0] 34)
  have HF := Lib.hid (fun W => fromGo_bool z W)
  unfold kR
  generalize truthK z = k at *
  go_enter Tryz.func42, Tryz.ntmps42
  go_wp2_with fail
  refine (HF.out _).mono ?_
  rintro e w2 ⟨rfl, hb⟩
  (unfold kV; have hX2 := kept_below hb (by simp) hX; have hB2 := hB.trans (hb.mono (by simp)); obtain ⟨x0, x1, x2, x3, x4, x5, x6⟩ := box7 hX2; obtain ⟨f0, f1, f2, f3, f4, f5, f6⟩ := frozen7 hX2; have hlt : w.heap.size < w2.heap.size := by have := hb.size; simp at this; omega)
  go_wp2
  refine bodyPost_ret (v := .agg #[.int .i64 k, .int .i64 0, .string ⟨#[]⟩, .slice none 0 0, .slice none 0 0, .slice none 0 0, .int .i64 0]) (by simp [results, Tryz.results42, go_sem, *]) rfl ⟨rfl, ?_⟩
  exact (((((((hB2.setCell (Nat.le_refl _) _).setCell (Nat.le_refl _) _).setCell (Nat.le_refl _) _).setCell (Nat.le_refl _) _).setCell (Nat.le_refl _) _).setCell (Nat.le_refl _) _).setCell (Nat.le_refl _) _).alloc (by simp; omega) _

set_option maxRecDepth 100000 in
set_option maxHeartbeats 1000000 in
theorem told_kind (k : Int) (w : World) (h0 : 0 ≤ k) (h2 : k ≤ 2) :
    Calls Tryz.prog 10 #[kR k, kV k, .int .i64 0] w fun e w' => e = .returned (.bool true) ∧ Below w.heap.size w w' := by
  have C := Lib.hid (fun W => Same_plain k 0 0 (.string ⟨#[]⟩) (.slice none 0 0) (.slice none 0 0) (.slice none 0 0) (.string ⟨#[]⟩) (.slice none 0 0) (.slice none 0 0) (.slice none 0 0) W h0 (by omega) (by decide) (by decide) (by decide) (by decide) (fun _ => ⟨rfl, rfl⟩))
  unfold kR kV
  have hB := ((Below.refl w.heap.size w).alloc (Nat.le_refl _) (.cells #[.int .i64 k, .int .i64 0, .string ⟨#[]⟩, .slice none 0 0, .slice none 0 0, .slice none 0 0, .int .i64 0] 34)).alloc (by simp) (.cells #[.int .i64 k, .int .i64 0, .string ⟨#[]⟩, .slice none 0 0, .slice none 0 0, .slice none 0 0] 26)
  go_enter Tryz.func10, Tryz.ntmps10
  go_wp2_with (go_at_call 40; refine (C.out _).mono ?_; rintro e w1 ⟨rfl, hb⟩)
  go_ret
  exact ⟨by first | rfl | simp, hB.trans (hb.mono (by simp; omega))⟩
end Go.Proofs.YtmjegeipnaalnaaGreatDoor
