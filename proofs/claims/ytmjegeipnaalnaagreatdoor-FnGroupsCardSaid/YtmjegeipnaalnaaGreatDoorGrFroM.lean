/- From Go's values to a value of the thin package: a map: the walk. -/
import Derived.Test.YtmjegeipnaalnaaGreatDoorGrFroG
import Derived.Test.YtmjegeipnaalnaaGreatDoorGrUpdA
import Derived.Test.YtmjegeipnaalnaaGreatDoorGrKeys0
namespace Go.Proofs.YtmjegeipnaalnaaGreatDoor
open Go.RowKit

theorem ents_all {w : World} {lo B : Nat} : ∀ {vs : List JV} {ks : List ByteArray} {ps : List (Value × Value)}, ks.length = vs.length → PEnts w lo B vs ks ps → ∀ k ∈ ks, ∃ c, (Value.string k, c) ∈ ps
  | [], [], _, _, _, k, hk => by simp at hk
  | [], _ :: _, _, h, _, _, _ => absurd h (by simp)
  | _ :: _, [], _, h, _, _, _ => absurd h (by simp)
  | y :: r, a :: ks, ps, hl, h, k, hk => by
    unfold PEnts at h
    rcases List.mem_cons.1 hk with e | e
    · subst e
      obtain ⟨c, h1, _⟩ := h.1
      exact ⟨c, h1⟩
    · exact ents_all (by simpa using hl) h.2 k e

theorem boxes_T {bb : Bool} {W : World} {o b : Nat} {a0 a1 a2 a3 u v d0 d1 d2 d3 d4 d5 : Value} {T T' : TypeId} (hO : bb = false → W.heap[o]? = some (.cells #[a0, a1, a2, a3, u, v] T (0, 0))) (hX : W.heap[b]? = some (.cells #[d0, d1, d2, d3, d4, d5] T' (0, 0))) :
    (bb = false → W.cell? ⟨o, 4, none⟩ = some u ∧ W.cell? ⟨o, 5, none⟩ = some v) ∧ W.cell? ⟨b, 0, none⟩ = some d0 ∧ W.cell? ⟨b, 1, none⟩ = some d1 ∧ W.cell? ⟨b, 2, none⟩ = some d2 ∧ W.cell? ⟨b, 3, none⟩ = some d3 ∧ W.cell? ⟨b, 4, none⟩ = some d4 ∧ W.cell? ⟨b, 5, none⟩ = some d5 := by
  refine ⟨fun h => ?_, box6 hX⟩
  obtain ⟨_, _, _, _, x4, x5⟩ := box6 (hO h)
  exact ⟨x4, x5⟩

set_option maxRecDepth 100000 in
set_option maxHeartbeats 8000000 in
theorem mapFromGo (ks : List ByteArray) (vs : List JV) (ih : ∀ y ∈ vs, FromC y) (gv : GoodL vs) (fv : FewL 1002 vs) (sv : ShortL vs) (hl : ks.length = vs.length) (hr : Rising none ks) (hs : ∀ k ∈ ks, k.size ≤ 140737488351232) (n : Nat) (hn : ks.length = n) (hn1 : n ≤ 1002)
    (b : Nat) (es : List MapEntry) (clock : Nat) (w : World) (hb : b < w.heap.size) (hblk : w.heap[b]? = some (.map (List.toArray es) clock)) (h9 : ∀ e ∈ es, e.born < clock) (h10 : (es.map (·.born)).Nodup)
    (h11 : ∀ q ∈ prs es, ∃ k ∈ ks, q.1 = .string k) (h12 : ((prs es).map (·.1)).Nodup) (hE : PEnts w 0 w.heap.size vs ks (prs es)) :
    Calls Tryz.prog 131 #[.map (some b)] w fun e w' => ∃ u v, e = .returned (.tuple #[.agg #[.int .i64 6, .int .i64 0, .string ⟨#[]⟩, .slice none 0 0, u, v], .bool true]) ∧
      SlOf n 16 (SCellsS w' (fun b => w.heap.size ≤ b ∧ b < w'.heap.size) ks) u ∧ SlOf n 104 (JCellsS w' (fun b => w.heap.size ≤ b ∧ b < w'.heap.size) vs) v ∧ Below w.heap.size w w' := by
  obtain ⟨hR, hO⟩ := two_new w (.cells #[.int .i64 0, .int .i64 0, .string ⟨#[]⟩, .slice none 0 0, .slice none 0 0, .slice none 0 0] 26) (.cells #[.int .i64 6, .int .i64 0, .string ⟨#[]⟩, .slice none 0 0, .slice none 0 0, .slice none 0 0] 26)
  have hB := ((Below.refl w.heap.size w).alloc (Nat.le_refl _) (.cells #[.int .i64 0, .int .i64 0, .string ⟨#[]⟩, .slice none 0 0, .slice none 0 0, .slice none 0 0] 26)).alloc (by simp) (.cells #[.int .i64 6, .int .i64 0, .string ⟨#[]⟩, .slice none 0 0, .slice none 0 0, .slice none 0 0] 26)
  have hsz : w.heap.size + 2 ≤ ((w.alloc (.cells #[.int .i64 0, .int .i64 0, .string ⟨#[]⟩, .slice none 0 0, .slice none 0 0, .slice none 0 0] 26)).alloc (.cells #[.int .i64 6, .int .i64 0, .string ⟨#[]⟩, .slice none 0 0, .slice none 0 0, .slice none 0 0] 26)).heap.size := by simp
  have HN := Lib.hid hn
  have HL := Lib.hid hl
  have HBLK := Lib.hid hblk
  have HLOOK := Lib.hid (fun (W : World) (hW : Below w.heap.size w W) (k : ByteArray) => lookv (w := W) (lo := 0) (B := W.heap.size) (ks := ks) (vs := vs) k hr hl ((hW.block b hb).trans hblk) h11 h12 (PEnts.mono (fun k _ hk => hW.block k hk) (Nat.le_refl _) hW.size vs ks _ hE))
  have HKEYS := Lib.hid (fun (W : World) (hW : Below w.heap.size w W) => keys_of_map (w := W) ((hW.block b hb).trans hblk) h9 h10 h11 h12 (ents_all hl hE) hr hs (by omega))
  have HRIS := Lib.hid hr
  clear hn hl hblk h9 h10 h11 h12 hE hr
  go_enter Tryz.func131, Tryz.ntmps131
  go_upto_region 2 with (fail)
  generalize ((w.alloc (.cells #[.int .i64 0, .int .i64 0, .string ⟨#[]⟩, .slice none 0 0, .slice none 0 0, .slice none 0 0] 26)).alloc (.cells #[.int .i64 6, .int .i64 0, .string ⟨#[]⟩, .slice none 0 0, .slice none 0 0, .slice none 0 0] 26)) = w0 at *
  obtain ⟨D0, hmap, hsz0, hsort⟩ := HKEYS.out w0 hB
  have HSORT := Lib.hid hsort
  have C2 := Lib.hid (callsIn_wide.1 (Tryz.slices_Sorted_keys_196_197 b es.length D0 noR w0 hmap (by unfold maxLen; omega) (by omega)))
  clear hsort
  go_wp2_with fail
  refine (callsIn_wide.1 (Tryz.maps_Keys_197 (some b) w0)).mono ?_
  rintro e w' ⟨rfl, rfl⟩
  go_wp2_with fail
  refine C2.out.mono ?_
  rintro e wS ⟨v, ss, rfl, hperm, hown, _, hbS⟩
  rw [HSORT.out ss hperm] at hown
  have hss : ss.length = n := by
    have h0 : (ks.map Value.string).length = ss.length * 1 := hown.1
    rw [List.length_map, HN.out] at h0
    omega
  rw [hss] at hown
  obtain ⟨Av, cv, rfl⟩ := slice_of_own hown
  have HOWN := Lib.hid hown
  have hwS : w.heap.size + 3 ≤ wS.heap.size := by have := hbS.size; simp at this; omega
  have hwSB : Below w.heap.size w wS := (hB.alloc (by omega) _).trans (hbS.mono (by simp; omega))
  replace hR := kept_below hbS (by simp; omega) ((heap_alloc_old w0 _ (by omega)).trans hR)
  replace hO := kept_below hbS (by simp; omega) ((heap_alloc_old w0 _ (by omega)).trans hO)
  have hbase : w.heap.size + 2 ≤ (w0.alloc (.cells #[.map (some b)] 83)).heap.size := by simp; omega
  clear hbS hperm hss hB hsz hown HKEYS HSORT C2 hmap hsz0
  go_wp2_with fail
  go_loopw [14] (fun i wr => ∃ (j : Nat) (u v : Value) (xs : List Value), j ≤ n ∧ i = .int .i64 j ∧ wr.heap[w.heap.size]? = some (.cells #[.int .i64 0, .int .i64 0, .string ⟨#[]⟩, .slice none 0 0, .slice none 0 0, .slice none 0 0] 26) ∧ wr.heap[w.heap.size + 1]? = some (.cells #[.int .i64 6, .int .i64 0, .string ⟨#[]⟩, .slice none 0 0, u, v] 26) ∧
    wr.ownsRow wS.heap.size 9 1 u j ((ks.take j).map Value.string) ∧ wr.ownsRow wS.heap.size 26 6 v j xs ∧ (∀ g, u.ownBlock = some g → v.ownBlock ≠ some g) ∧ JFlat wr (Beside2 wS.heap.size wr u v) (vs.take j) xs ∧ (∀ k, k < wS.heap.size → k ≠ w.heap.size + 1 → wr.heap[k]? = wS.heap[k]?) ∧ Below w.heap.size w wr ∧ wS.heap.size ≤ wr.heap.size) (fun i _ => n - (intOf i).toNat)
  case atStart => exact ⟨0, .slice none 0 0, .slice none 0 0, [], Nat.zero_le _, rfl, hR, hO, World.ownsRow_nil _ _ _ _, World.ownsRow_nil _ _ _ _, by simp [Value.ownBlock], by simp [JFlat], fun _ _ _ => rfl, hwSB, Nat.le_refl _⟩
  case round =>
    obtain ⟨j, u, v, xs, hj, rfl, hRr, hOr, hownU, hownV, hne, hfl, hkr, hbr, hszr⟩ := hrel
    obtain ⟨wo, rfl⟩ : ∃ wo, wo = wr := ⟨_, rfl⟩
    by_cases hjn : j < n
    · have hjk : j < ks.length := by rw [HN.out]; exact hjn
      have hjl : j < vs.length := by rw [← HL.out]; exact hjk
      obtain ⟨g, cap, eg, hg1, hg2⟩ := HOWN.out.form (by omega)
      simp only [Value.slice.injEq, true_and] at eg
      obtain ⟨rfl, rfl⟩ := eg
      have hcell : wo.cell? ⟨g, j, none⟩ = some (.string ks[j]) := by
        have q := HOWN.out.cells (g := g) rfl j (.string ks[j]) (by simp [hjk])
        rw [show (⟨g, 0, none⟩ : Addr).add j = ⟨g, j, none⟩ by unfold Addr.add; split <;> simp_all] at q
        exact (cell_kept (hkr g hg2 (by omega))).trans q
      obtain ⟨c, hlook, hrepc⟩ := HLOOK.out wo hbr ks[j]
      rw [getV_at HRIS.out j hjk hjl] at hrepc
      have C := Lib.hid (ih _ (List.getElem_mem hjl) c wo hrepc (gv.get _ (List.getElem_mem hjl)) (fv.get _ (List.getElem_mem hjl)) (sv.get _ (List.getElem_mem hjl)))
      have HTV := Lib.hid (show vs.take (j + 1) = vs.take j ++ [vs[j]] from List.take_succ_eq_append_getElem hjl)
      have HTK := Lib.hid (show (ks.take (j + 1)).map Value.string = (ks.take j).map Value.string ++ [Value.string ks[j]] by rw [List.take_succ_eq_append_getElem hjk, List.map_append]; rfl)
      generalize vs[j] = y at *
      generalize ks[j] = kj at *
      clear hrepc
      go_wp2_with fail
      refine C.out.mono ?_
      rintro e w1 ⟨d0, d1, d2, d3, d4, d5, rfl, hrep, hb1⟩
      obtain ⟨k1, h1, t1, A1, n1, m1, A2, n2, m2, A3, n3, m3, rfl, rfl, rfl, rfl, rfl, rfl⟩ := hrep.shape
      go_upto_region 8 with (fail)
      obtain ⟨Au, cu, rfl⟩ := slice_of_own hownU
      obtain ⟨Aw, cw, rfl⟩ := slice_of_own hownV
      have hlt1 := hb1.size
      have hXA := heap_alloc_new w1 (.cells #[.int .i64 k1, .int .i64 h1, .string t1, .slice A1 n1 m1, .slice A2 n2 m2, .slice A3 n3 m3] 26)
      have hbA := hb1.alloc (by omega) (.cells #[.int .i64 k1, .int .i64 h1, .string t1, .slice A1 n1 m1, .slice A2 n2 m2, .slice A3 n3 m3] 26)
      have hszA : (w1.alloc (.cells #[.int .i64 k1, .int .i64 h1, .string t1, .slice A1 n1 m1, .slice A2 n2 m2, .slice A3 n3 m3] 26)).heap.size = w1.heap.size + 1 := by simp
      have hkA : ∀ k, k < w1.heap.size → (w1.alloc (.cells #[.int .i64 k1, .int .i64 h1, .string t1, .slice A1 n1 m1, .slice A2 n2 m2, .slice A3 n3 m3] 26)).heap[k]? = w1.heap[k]? := fun k hk => heap_alloc_old w1 _ hk
      generalize w1.alloc (.cells #[.int .i64 k1, .int .i64 h1, .string t1, .slice A1 n1 m1, .slice A2 n2 m2, .slice A3 n3 m3] 26) = wA at *
      have hownUA := ownsRow_keep hownU (fun k hk => hbA.block k (hownU.lt k hk).2)
      have hownVA := ownsRow_keep hownV (fun k hk => hbA.block k (hownV.lt k hk).2)
      have hO1 := kept_below hbA (by omega) hOr
      have HT := Lib.hid (fun (bb : Bool) (W : World) (q1 : bb = false → W.heap[w.heap.size + 1]? = wA.heap[w.heap.size + 1]?) (q2 : W.heap[w1.heap.size]? = wA.heap[w1.heap.size]?) => boxes_T (bb := bb) (W := W) (fun hb => (q1 hb).trans hO1) (q2.trans hXA))
      refine wp_region_U (fun bb W => (bb = false → W.cell? ⟨w.heap.size + 1, 4, none⟩ = some (.slice Au j cu) ∧ W.cell? ⟨w.heap.size + 1, 5, none⟩ = some (.slice Aw j cw)) ∧ W.cell? ⟨w1.heap.size, 0, none⟩ = some (.int .i64 k1) ∧ W.cell? ⟨w1.heap.size, 1, none⟩ = some (.int .i64 h1) ∧ W.cell? ⟨w1.heap.size, 2, none⟩ = some (.string t1) ∧ W.cell? ⟨w1.heap.size, 3, none⟩ = some (.slice A1 n1 m1) ∧ W.cell? ⟨w1.heap.size, 4, none⟩ = some (.slice A2 n2 m2) ∧ W.cell? ⟨w1.heap.size, 5, none⟩ = some (.slice A3 n3 m3)) 11 (by kernel_rfl) ?_
      have hT0 := HT.out false wA.drew (fun _ => rfl) rfl
      refine wpAnyU_take2 (fun _ => True) (i := 0) (v := .pointer (some ⟨w.heap.size + 1, 4, none⟩)) rfl (by kernel_rfl) (by kernel_rfl) (by kernel_rfl) (by decide) (fun _ _ _ => trivial) (fun _ _ _ h => h) (by rfl) hT0 (fun W _ => ?_) ?_
      · go_simp
      try simp only [Act.put, List.setIfInBounds_toArray]
      refine wpAnyU_take (i := 1) (v := .slice Au j cu) rfl (by kernel_rfl) (by kernel_rfl) (by kernel_rfl) (by kernel_rfl) (by rfl) (fun _ _ _ h => h) (by rfl) hT0 (fun W hW => ?_) ?_
      · have q1 := (hW.1 rfl).1
        clear hW hT0
        go_simp
      try simp only [Act.put]
      refine wpAnyU_take2 (fun _ => True) (i := 2) (v := .string kj) rfl (by kernel_rfl) (by kernel_rfl) (by kernel_rfl) (by decide) (fun _ _ _ => trivial) (fun _ _ _ h => h) (by rfl) hT0 (fun W _ => ?_) ?_
      · go_simp
      try simp only [Act.put]
      refine wpAnyU_take2 (fun _ => True) (i := 5) (v := .pointer (some ⟨w.heap.size + 1, 5, none⟩)) rfl (by kernel_rfl) (by kernel_rfl) (by kernel_rfl) (by decide) (fun _ _ _ => trivial) (fun _ _ _ h => h) (by rfl) hT0 (fun W _ => ?_) ?_
      · go_simp
      try simp only [Act.put]
      refine wpAnyU_take (i := 6) (v := .slice Aw j cw) rfl (by kernel_rfl) (by kernel_rfl) (by kernel_rfl) (by kernel_rfl) (by rfl) (fun _ _ _ h => h) (by rfl) hT0 (fun W hW => ?_) ?_
      · have q1 := (hW.1 rfl).2
        clear hW hT0
        go_simp
      try simp only [Act.put]
      refine wpAnyU_take2 (fun W => W.cell? ⟨w1.heap.size, 0, none⟩ = some (.int .i64 k1) ∧ W.cell? ⟨w1.heap.size, 1, none⟩ = some (.int .i64 h1) ∧ W.cell? ⟨w1.heap.size, 2, none⟩ = some (.string t1) ∧ W.cell? ⟨w1.heap.size, 3, none⟩ = some (.slice A1 n1 m1) ∧ W.cell? ⟨w1.heap.size, 4, none⟩ = some (.slice A2 n2 m2) ∧ W.cell? ⟨w1.heap.size, 5, none⟩ = some (.slice A3 n3 m3)) (i := 7) (v := .agg #[.int .i64 k1, .int .i64 h1, .string t1, .slice A1 n1 m1, .slice A2 n2 m2, .slice A3 n3 m3]) rfl (by kernel_rfl) (by kernel_rfl) (by kernel_rfl) (by decide) (fun _ _ h => h.2) (fun _ _ _ h => h) (by rfl) hT0 (fun W hW => ?_) ?_
      · obtain ⟨r0, r1, r2, r3, r4, r5⟩ := hW
        clear hT0
        go_simp
      try simp only [Act.put]
      clear hT0
      obtain ⟨iK, hiK, hzK, hsK, hyK⟩ : ∃ i, Tryz.prog.info? 9 = some i ∧ i.zero = some (.string ⟨#[]⟩) ∧ i.size = 1 ∧ i.bytes = 16 := ⟨Tryz.t9, by kernel_rfl, by kernel_rfl, by kernel_rfl, by kernel_rfl⟩
      obtain ⟨iT, hiT, hzT, hsT, hyT⟩ : ∃ i, Tryz.prog.info? 26 = some i ∧ i.zero = some (.agg #[.int .i64 0, .int .i64 0, .string ⟨#[]⟩, .slice none 0 0, .slice none 0 0, .slice none 0 0]) ∧ i.size = 6 ∧ i.bytes = 104 := ⟨Tryz.t26, by kernel_rfl, by kernel_rfl, by kernel_rfl, by kernel_rfl⟩
      have D3 : j + 1 ≤ maxLen := by unfold maxLen; omega
      have DK : (j + 1) * 16 ≤ 140737488355328 := by omega
      have DV : (j + 1) * 104 ≤ 140737488355328 := by omega
      refine wpAnyU_ready (rs := [3, 8]) (by kernel_rfl) (by simp) ?_
      have NU := Lib.hid (show ∀ k, (k < wS.heap.size ∨ wo.heap.size ≤ k) → (Value.slice Au j cu).ownBlock ≠ some k from fun k h e => by have := hownU.lt k e; omega)
      have NV := Lib.hid (show ∀ k, (k < wS.heap.size ∨ wo.heap.size ≤ k) → (Value.slice Aw j cw).ownBlock ≠ some k from fun k h e => by have := hownV.lt k e; omega)
      refine AllReadyU.cons rfl (fun K hK => ?b3) (AllReadyU.cons rfl (fun K hK => ?b8) AllReadyU.nil)
      case' b3 =>
        go_simp
        refine hK.out _ _ (HT.out _ _ (fun _ => heap_alloc_old wA _ (by omega)) (heap_alloc_old wA _ (by omega))) ?_
        clear hK K
        try simp only [Act.put, List.setIfInBounds_toArray, List.set_cons_zero, List.set_cons_succ]
        refine wpAnyU_ready (rs := [4, 8]) (by kernel_rfl) (by simp) ?_
        refine AllReadyU.cons rfl (fun K hK => ?b34) (AllReadyU.cons rfl (fun K hK => ?b38) AllReadyU.nil)
        case' b34 =>
          have hWA : ∀ k, k < wA.heap.size → (wA.alloc (.cells #[.string kj] 9)).drew.heap[k]? = wA.heap[k]? := fun k h => heap_alloc_old wA _ h
          have hWB : Below wA.heap.size wA (wA.alloc (.cells #[.string kj] 9)).drew := ((Below.refl _ _).alloc (Nat.le_refl _) _).drew
          have hboxK : (wA.alloc (.cells #[.string kj] 9)).drew.heap[w1.heap.size + 1]? = some (.cells #[.string kj] 9 (0, 0)) := by rw [← hszA]; exact heap_alloc_new wA _
          refine step_append_lies _ (by rfl) _ _ _ (by rfl) wS.heap.size 9 iK _ 1 16 Tryz.underlying24 hiK hzK hsK hyK rfl (by omega) (.slice Au j cu) j ((ks.take j).map Value.string) (by rfl) (ownsRow_keep hownUA (fun k hk => hWA k (hownUA.lt k hk).2)) ⟨w1.heap.size + 1, 0, none⟩ 1 1 [.string kj] (by rfl) (by rfl) (World.news_of_block (cs := #[.string kj]) (t := 9) (fr := (0, 0)) hboxK) (by simp [Value.oneCell']) (by omega) D3 DK (by have := hWB.size; omega) _ rfl ?_
          intro gK cK w2 oK hgK aK lK
          have hw2 : ∀ k, k < wA.heap.size → (Value.slice Au j cu).ownBlock ≠ some k → w2.heap[k]? = wA.heap[k]? := fun k h1 h2 => (hgK.block k (by have := hWB.size; omega) (fun e => h2 e.symm)).trans (hWA k h1)
          refine hK.out _ _ (HT.out _ _ (fun _ => hw2 _ (by omega) (NU.out _ (by omega))) (hw2 _ (by omega) (NU.out _ (by omega)))) ?_
          clear hK K
          try simp only [Act.put, List.setIfInBounds_toArray]
          refine wpAnyU_take2 (fun _ => True) (i := 10) (v := .pointer (some ⟨w.heap.size + 1, 4, none⟩)) rfl (by kernel_rfl) (by kernel_rfl) (by kernel_rfl) (by decide) (fun _ _ _ => trivial) (fun _ _ _ h => h) (by rfl) (HT.out _ _ (fun _ => hw2 _ (by omega) (NU.out _ (by omega))) (hw2 _ (by omega) (NU.out _ (by omega)))) (fun W _ => ?_) ?_
          · clear hownUA hownVA hownU hownV HT oK hgK
            go_simp
          try simp only [Act.put]
          refine wpAnyU_ready (rs := [8]) (by kernel_rfl) (by simp) ?_
          refine AllReadyU.cons rfl (fun K hK => ?_) AllReadyU.nil
          go_simp
          have hw2s : wA.heap.size ≤ w2.heap.size := by have := hWB.size; have := hgK.size; omega
          refine hK.out _ _ (HT.out _ _ (fun _ => (heap_alloc_old w2 _ (by omega)).trans (hw2 _ (by omega) (NU.out _ (by omega)))) ((heap_alloc_old w2 _ (by omega)).trans (hw2 _ (by omega) (NU.out _ (by omega))))) ?_
          clear hK K
          try simp only [Act.put, List.setIfInBounds_toArray, List.set_cons_zero, List.set_cons_succ]
          have HM := Lib.hid (mid_mk hownUA hownVA hne hWB hgK oK aK hWB.size lK ((Below.refl _ _).alloc (Nat.le_refl _) (.cells #[.int .i64 k1, .int .i64 h1, .string t1, .slice A1 n1 m1, .slice A2 n2 m2, .slice A3 n3 m3] 26)) (heap_alloc_new w2 (.cells #[.int .i64 k1, .int .i64 h1, .string t1, .slice A1 n1 m1, .slice A2 n2 m2, .slice A3 n3 m3] 26)))
          clear oK hgK aK lK hw2 hw2s hWA hWB hboxK
          generalize w2.alloc (.cells #[.int .i64 k1, .int .i64 h1, .string t1, .slice A1 n1 m1, .slice A2 n2 m2, .slice A3 n3 m3] 26) = W2 at HM ⊢
          generalize w2.heap.size = bv at HM ⊢
        case' b38 =>
          go_simp
          refine hK.out _ _ (HT.out _ _ (fun _ => (heap_alloc_old (wA.alloc (.cells #[.string kj] 9)) _ (by simp; omega)).trans (heap_alloc_old wA _ (by omega))) ((heap_alloc_old (wA.alloc (.cells #[.string kj] 9)) _ (by simp; omega)).trans (heap_alloc_old wA _ (by omega)))) ?_
          clear hK K
          try simp only [Act.put, List.setIfInBounds_toArray, List.set_cons_zero, List.set_cons_succ]
          refine wpAnyU_ready (rs := [4]) (by kernel_rfl) (by simp) ?_
          refine AllReadyU.cons rfl (fun K hK => ?_) AllReadyU.nil
          have hWA : ∀ k, k < wA.heap.size → ((wA.alloc (.cells #[.string kj] 9)).alloc (.cells #[.int .i64 k1, .int .i64 h1, .string t1, .slice A1 n1 m1, .slice A2 n2 m2, .slice A3 n3 m3] 26)).drew.heap[k]? = wA.heap[k]? := fun k h => (heap_alloc_old (wA.alloc (.cells #[.string kj] 9)) _ (by simp; omega)).trans (heap_alloc_old wA _ h)
          have hWB : Below wA.heap.size wA ((wA.alloc (.cells #[.string kj] 9)).alloc (.cells #[.int .i64 k1, .int .i64 h1, .string t1, .slice A1 n1 m1, .slice A2 n2 m2, .slice A3 n3 m3] 26)).drew := (((Below.refl _ _).alloc (Nat.le_refl _) _).alloc (by simp) _).drew
          have hboxK : ((wA.alloc (.cells #[.string kj] 9)).alloc (.cells #[.int .i64 k1, .int .i64 h1, .string t1, .slice A1 n1 m1, .slice A2 n2 m2, .slice A3 n3 m3] 26)).drew.heap[w1.heap.size + 1]? = some (.cells #[.string kj] 9 (0, 0)) := (heap_alloc_old (wA.alloc (.cells #[.string kj] 9)) _ (by simp; omega)).trans (by rw [← hszA]; exact heap_alloc_new wA _)
          have hboxV : ((wA.alloc (.cells #[.string kj] 9)).alloc (.cells #[.int .i64 k1, .int .i64 h1, .string t1, .slice A1 n1 m1, .slice A2 n2 m2, .slice A3 n3 m3] 26)).drew.heap[w1.heap.size + 1 + 1]? = some (.cells #[.int .i64 k1, .int .i64 h1, .string t1, .slice A1 n1 m1, .slice A2 n2 m2, .slice A3 n3 m3] 26 (0, 0)) := by
            have q := heap_alloc_new (wA.alloc (.cells #[.string kj] 9)) (.cells #[.int .i64 k1, .int .i64 h1, .string t1, .slice A1 n1 m1, .slice A2 n2 m2, .slice A3 n3 m3] 26)
            rw [show (wA.alloc (.cells #[.string kj] 9)).heap.size = w1.heap.size + 1 + 1 by simp; omega] at q
            exact q
          refine step_append_lies _ (by rfl) _ _ _ (by rfl) wS.heap.size 9 iK _ 1 16 Tryz.underlying24 hiK hzK hsK hyK rfl (by omega) (.slice Au j cu) j ((ks.take j).map Value.string) (by rfl) (ownsRow_keep hownUA (fun k hk => hWA k (hownUA.lt k hk).2)) ⟨w1.heap.size + 1, 0, none⟩ 1 1 [.string kj] (by rfl) (by rfl) (World.news_of_block (cs := #[.string kj]) (t := 9) (fr := (0, 0)) hboxK) (by simp [Value.oneCell']) (by omega) D3 DK (by have := hWB.size; omega) _ rfl ?_
          intro gK cK w2 oK hgK aK lK
          have hw2 : ∀ k, k < wA.heap.size → (Value.slice Au j cu).ownBlock ≠ some k → w2.heap[k]? = wA.heap[k]? := fun k h1 h2 => (hgK.block k (by have := hWB.size; omega) (fun e => h2 e.symm)).trans (hWA k h1)
          refine hK.out _ _ (HT.out _ _ (fun _ => hw2 _ (by omega) (NU.out _ (by omega))) (hw2 _ (by omega) (NU.out _ (by omega)))) ?_
          clear hK K
          try simp only [Act.put, List.setIfInBounds_toArray]
          refine wpAnyU_take2 (fun _ => True) (i := 10) (v := .pointer (some ⟨w.heap.size + 1, 4, none⟩)) rfl (by kernel_rfl) (by kernel_rfl) (by kernel_rfl) (by decide) (fun _ _ _ => trivial) (fun _ _ _ h => h) (by rfl) (HT.out _ _ (fun _ => hw2 _ (by omega) (NU.out _ (by omega))) (hw2 _ (by omega) (NU.out _ (by omega)))) (fun W _ => ?_) ?_
          · clear hownUA hownVA hownU hownV HT oK hgK
            go_simp
          try simp only [Act.put]
          have HM := Lib.hid (mid_mk hownUA hownVA hne hWB hgK oK aK hWB.size lK (Below.refl _ _) (mid_box hgK hboxV (NU.out _ (by omega))))
          clear oK hgK aK lK hw2 hWA hWB hboxK hboxV
          obtain ⟨W2, rfl⟩ : ∃ W2, W2 = w2 := ⟨_, rfl⟩
          generalize w1.heap.size + 1 + 1 = bv at HM ⊢
      case' b8 =>
        go_simp
        refine hK.out _ _ (HT.out _ _ (fun _ => heap_alloc_old wA _ (by omega)) (heap_alloc_old wA _ (by omega))) ?_
        clear hK K
        try simp only [Act.put, List.setIfInBounds_toArray, List.set_cons_zero, List.set_cons_succ]
        refine wpAnyU_ready (rs := [3]) (by kernel_rfl) (by simp) ?_
        refine AllReadyU.cons rfl (fun K hK => ?_) AllReadyU.nil
        go_simp
        refine hK.out _ _ (HT.out _ _ (fun _ => (heap_alloc_old (wA.alloc (.cells #[.int .i64 k1, .int .i64 h1, .string t1, .slice A1 n1 m1, .slice A2 n2 m2, .slice A3 n3 m3] 26)) _ (by simp; omega)).trans (heap_alloc_old wA _ (by omega))) ((heap_alloc_old (wA.alloc (.cells #[.int .i64 k1, .int .i64 h1, .string t1, .slice A1 n1 m1, .slice A2 n2 m2, .slice A3 n3 m3] 26)) _ (by simp; omega)).trans (heap_alloc_old wA _ (by omega)))) ?_
        clear hK K
        try simp only [Act.put, List.setIfInBounds_toArray, List.set_cons_zero, List.set_cons_succ]
        refine wpAnyU_ready (rs := [4]) (by kernel_rfl) (by simp) ?_
        refine AllReadyU.cons rfl (fun K hK => ?_) AllReadyU.nil
        have hWA : ∀ k, k < wA.heap.size → ((wA.alloc (.cells #[.int .i64 k1, .int .i64 h1, .string t1, .slice A1 n1 m1, .slice A2 n2 m2, .slice A3 n3 m3] 26)).alloc (.cells #[.string kj] 9)).drew.heap[k]? = wA.heap[k]? := fun k h => (heap_alloc_old (wA.alloc (.cells #[.int .i64 k1, .int .i64 h1, .string t1, .slice A1 n1 m1, .slice A2 n2 m2, .slice A3 n3 m3] 26)) _ (by simp; omega)).trans (heap_alloc_old wA _ h)
        have hWB : Below wA.heap.size wA ((wA.alloc (.cells #[.int .i64 k1, .int .i64 h1, .string t1, .slice A1 n1 m1, .slice A2 n2 m2, .slice A3 n3 m3] 26)).alloc (.cells #[.string kj] 9)).drew := (((Below.refl _ _).alloc (Nat.le_refl _) _).alloc (by simp) _).drew
        have hboxV : ((wA.alloc (.cells #[.int .i64 k1, .int .i64 h1, .string t1, .slice A1 n1 m1, .slice A2 n2 m2, .slice A3 n3 m3] 26)).alloc (.cells #[.string kj] 9)).drew.heap[w1.heap.size + 1]? = some (.cells #[.int .i64 k1, .int .i64 h1, .string t1, .slice A1 n1 m1, .slice A2 n2 m2, .slice A3 n3 m3] 26 (0, 0)) := (heap_alloc_old (wA.alloc (.cells #[.int .i64 k1, .int .i64 h1, .string t1, .slice A1 n1 m1, .slice A2 n2 m2, .slice A3 n3 m3] 26)) _ (by simp; omega)).trans (by rw [← hszA]; exact heap_alloc_new wA _)
        have hboxK : ((wA.alloc (.cells #[.int .i64 k1, .int .i64 h1, .string t1, .slice A1 n1 m1, .slice A2 n2 m2, .slice A3 n3 m3] 26)).alloc (.cells #[.string kj] 9)).drew.heap[w1.heap.size + 1 + 1]? = some (.cells #[.string kj] 9 (0, 0)) := by
          have q := heap_alloc_new (wA.alloc (.cells #[.int .i64 k1, .int .i64 h1, .string t1, .slice A1 n1 m1, .slice A2 n2 m2, .slice A3 n3 m3] 26)) (.cells #[.string kj] 9)
          rw [show (wA.alloc (.cells #[.int .i64 k1, .int .i64 h1, .string t1, .slice A1 n1 m1, .slice A2 n2 m2, .slice A3 n3 m3] 26)).heap.size = w1.heap.size + 1 + 1 by simp; omega] at q
          exact q
        refine step_append_lies _ (by rfl) _ _ _ (by rfl) wS.heap.size 9 iK _ 1 16 Tryz.underlying24 hiK hzK hsK hyK rfl (by omega) (.slice Au j cu) j ((ks.take j).map Value.string) (by rfl) (ownsRow_keep hownUA (fun k hk => hWA k (hownUA.lt k hk).2)) ⟨w1.heap.size + 1 + 1, 0, none⟩ 1 1 [.string kj] (by rfl) (by rfl) (World.news_of_block (cs := #[.string kj]) (t := 9) (fr := (0, 0)) hboxK) (by simp [Value.oneCell']) (by omega) D3 DK (by have := hWB.size; omega) _ rfl ?_
        intro gK cK w2 oK hgK aK lK
        have hw2 : ∀ k, k < wA.heap.size → (Value.slice Au j cu).ownBlock ≠ some k → w2.heap[k]? = wA.heap[k]? := fun k h1 h2 => (hgK.block k (by have := hWB.size; omega) (fun e => h2 e.symm)).trans (hWA k h1)
        refine hK.out _ _ (HT.out _ _ (fun _ => hw2 _ (by omega) (NU.out _ (by omega))) (hw2 _ (by omega) (NU.out _ (by omega)))) ?_
        clear hK K
        try simp only [Act.put, List.setIfInBounds_toArray]
        refine wpAnyU_take2 (fun _ => True) (i := 10) (v := .pointer (some ⟨w.heap.size + 1, 4, none⟩)) rfl (by kernel_rfl) (by kernel_rfl) (by kernel_rfl) (by decide) (fun _ _ _ => trivial) (fun _ _ _ h => h) (by rfl) (HT.out _ _ (fun _ => hw2 _ (by omega) (NU.out _ (by omega))) (hw2 _ (by omega) (NU.out _ (by omega)))) (fun W _ => ?_) ?_
        · clear hownUA hownVA hownU hownV HT oK hgK
          go_simp
        try simp only [Act.put]
        have HM := Lib.hid (mid_mk hownUA hownVA hne hWB hgK oK aK hWB.size lK (Below.refl _ _) (mid_box hgK hboxV (NU.out _ (by omega))))
        clear oK hgK aK lK hw2 hWA hWB hboxK hboxV
        obtain ⟨W2, rfl⟩ : ∃ W2, W2 = w2 := ⟨_, rfl⟩
        generalize hbv : w1.heap.size + 1 = bv at HM ⊢
        clear hbv
      all_goals
        have hM2 := HM.out
        obtain ⟨_, _, _, _, oV0, hs2, _, hk2, _, _, _, hbox⟩ := hM2
        have C1 := six_one k1 h1 t1 A1 A2 A3 n1 m1 n2 m2 n3 m3
        refine wpAnyU_ready (rs := [9]) (by kernel_rfl) (by simp) ?_
        refine AllReadyU.cons rfl (fun K hK => ?_) AllReadyU.nil
        refine step_append_lies _ (by rfl) _ _ _ (by rfl) wS.heap.size 26 iT _ 6 104 Tryz.underlying23 hiT hzT hsT hyT rfl (by omega) (.slice Aw j cw) j xs (by rfl) oV0 ⟨bv, 0, none⟩ 1 1 [.int .i64 k1, .int .i64 h1, .string t1, .slice A1 n1 m1, .slice A2 n2 m2, .slice A3 n3 m3] (by rfl) (by rfl) (World.news_of_block hbox) C1 (by omega) D3 DV (by omega) _ rfl ?_
        intro gV cV w3 oV hgV aV lV
        have ST := Lib.hid (st2_mid HM.out hgV oV aV)
        have hST := ST.out
        obtain ⟨_, _, s3, _, sk, _⟩ := hST
        have hO3 := (sk (w.heap.size + 1) (by omega) (NU.out _ (by omega)) (NV.out _ (by omega))).trans hO1
        have hX3 := sk w1.heap.size (by omega) (NU.out _ (by omega)) (NV.out _ (by omega))
        have hE3 := Lib.hid (sk (w.heap.size + 1) (by omega) (NU.out _ (by omega)) (NV.out _ (by omega)))
        refine hK.out _ _ (HT.out _ _ (fun _ => hE3.out) hX3) ?_
        clear hK K oV hgV aV oV0 hk2 hbox C1 sk
        try simp only [Act.put, List.setIfInBounds_toArray]
        obtain ⟨z0, z1, z2, z3, z4, z5⟩ := box6 hO3
        obtain ⟨f0, f1, f2, f3, f4, f5, _⟩ := frozen7 hO3
        refine wpAnyU_ready (rs := [11]) (by kernel_rfl) (by simp) ?_
        refine AllReadyU.cons rfl (fun K hK => ?_) AllReadyU.nil
        have HKA := Lib.hid hkA
        clear hXA hkA
        go_simp
        refine hK.out _ _ (HT.out _ _ (fun h => absurd h (by decide)) ((Below.heap_setCell w3 ⟨w.heap.size + 1, 4, none⟩ _ _ (show w1.heap.size ≠ w.heap.size + 1 by omega)).trans hX3)) ?_
        clear hK K
        try simp only [Act.put, List.setIfInBounds_toArray, List.set_cons_zero, List.set_cons_succ]
        refine wpAnyU_take2 (fun _ => True) (i := 12) (v := .pointer (some ⟨w.heap.size + 1, 5, none⟩)) rfl (by kernel_rfl) (by kernel_rfl) (by kernel_rfl) (by decide) (fun _ _ _ => trivial) (fun _ _ _ h => h) (by rfl) (HT.out _ _ (fun h => absurd h (by decide)) ((Below.heap_setCell w3 ⟨w.heap.size + 1, 4, none⟩ _ _ (show w1.heap.size ≠ w.heap.size + 1 by omega)).trans hX3)) (fun W _ => ?_) ?_
        · clear z0 z1 z2 z3 z4 z5 f0 f1 f2 f3 f4 f5
          go_simp
        try simp only [Act.put, List.setIfInBounds_toArray]
        refine wpAnyU_ready (rs := [13]) (by kernel_rfl) (by simp) ?_
        refine AllReadyU.cons rfl (fun K hK => ?_) AllReadyU.nil
        go_simp
        refine hK.out _ _ (HT.out _ _ (fun h => absurd h (by decide)) ((Below.heap_setCell _ ⟨w.heap.size + 1, 5, none⟩ _ _ (show w1.heap.size ≠ w.heap.size + 1 by omega)).trans ((Below.heap_setCell w3 ⟨w.heap.size + 1, 4, none⟩ _ _ (show w1.heap.size ≠ w.heap.size + 1 by omega)).trans hX3))) ?_
        clear hK K
        try simp only [Act.put, List.setIfInBounds_toArray, List.set_cons_zero, List.set_cons_succ]
        refine wpAnyU_done (by kernel_rfl) ?_ _
        clear z0 z1 z2 z3 z4 z5 f0 f1 f2 f3 f4 f5 hownUA hownVA HT
        go_wp2_with fail
        have hST := ST.out
        obtain ⟨sU, sV, ssz, ⟨e1, e2, e3⟩, sk, bU, bV, sne⟩ := hST
        have hstay : ∀ k, k ≠ w.heap.size + 1 → ((w3.setCell ⟨w.heap.size + 1, 4, none⟩ (.slice (some ⟨gK, 0, none⟩) (j + 1) cK)).setCell ⟨w.heap.size + 1, 5, none⟩ (.slice (some ⟨gV, 0, none⟩) (j + 1) cV)).heap[k]? = w3.heap[k]? := fun k hk => (Below.heap_setCell _ ⟨w.heap.size + 1, 5, none⟩ _ k hk).trans (Below.heap_setCell w3 ⟨w.heap.size + 1, 4, none⟩ _ k hk)
        have hsC : ((w3.setCell ⟨w.heap.size + 1, 4, none⟩ (.slice (some ⟨gK, 0, none⟩) (j + 1) cK)).setCell ⟨w.heap.size + 1, 5, none⟩ (.slice (some ⟨gV, 0, none⟩) (j + 1) cV)).heap.size = w3.heap.size := by simp [World.setCell]
        have hout := row_set5 (v := .slice (some ⟨gV, 0, none⟩) (j + 1) cV) (row_set4 (v := .slice (some ⟨gK, 0, none⟩) (j + 1) cK) hO3)
        have hb3 : Below w.heap.size w w3 := (hbr.trans (hbA.mono (by omega))).trans ⟨e1, e2, e3, ssz, fun k hk => sk k (by omega) (NU.out k (by omega)) (NV.out k (by omega))⟩
        have hb4 : Below w.heap.size w ((w3.setCell ⟨w.heap.size + 1, 4, none⟩ (.slice (some ⟨gK, 0, none⟩) (j + 1) cK)).setCell ⟨w.heap.size + 1, 5, none⟩ (.slice (some ⟨gV, 0, none⟩) (j + 1) cV)) := (hb3.setCell (p := ⟨w.heap.size + 1, 4, none⟩) (by simp) _).setCell (p := ⟨w.heap.size + 1, 5, none⟩) (by simp) _
        generalize ((w3.setCell ⟨w.heap.size + 1, 4, none⟩ (.slice (some ⟨gK, 0, none⟩) (j + 1) cK)).setCell ⟨w.heap.size + 1, 5, none⟩ (.slice (some ⟨gV, 0, none⟩) (j + 1) cV)) = W4 at *
        have hk1 : ∀ k, k < wo.heap.size → k ≠ w.heap.size + 1 → (Value.slice Au j cu).ownBlock ≠ some k → (Value.slice Aw j cw).ownBlock ≠ some k → W4.heap[k]? = wo.heap[k]? := fun k h1 h2 h3 h4 => (hstay k h2).trans ((sk k (by omega) h3 h4).trans (hbA.block k h1))
        have hk0 : ∀ k, k < wS.heap.size → k ≠ w.heap.size + 1 → W4.heap[k]? = wo.heap[k]? := fun k h1 h2 => hk1 k (by omega) h2 (NU.out k (by omega)) (NV.out k (by omega))
        have hfl4 := flat_two (w1 := w1) (w4 := W4) (u2 := .slice (some ⟨gK, 0, none⟩) (j + 1) cK) (v2 := .slice (some ⟨gV, 0, none⟩) (j + 1) cV) hownU hownV hfl hszr (fun k h0 h1 h2 h3 => hk1 k h1 (by omega) h2 h3) hrep (fun k h1 h2 => (hstay k (by omega)).trans ((sk k (by omega) (NU.out k (by omega)) (NV.out k (by omega))).trans (HKA.out k h2))) (by omega) (by omega) (bU.imp id (fun ⟨g, h1, h2⟩ => ⟨g, h1, by omega⟩)) (bV.imp id (fun ⟨g, h1, h2⟩ => ⟨g, h1, by omega⟩))
        refine ⟨⟨j + 1, .slice (some ⟨gK, 0, none⟩) (j + 1) cK, .slice (some ⟨gV, 0, none⟩) (j + 1) cV, _, by omega, by simp, (hk0 _ (by omega) (by omega)).trans hRr, hout, ?_, ownsRow_keep sV (fun k hk => hstay k (by have := (sV.lt k hk).1; omega)), sne, ?_, fun k h1 h2 => (hk0 k h1 h2).trans (hkr k h1 h2), hb4, by omega⟩, ?_⟩
        · rw [HTK.out]
          exact ownsRow_keep sU (fun k hk => hstay k (by have := (sU.lt k hk).1; omega))
        · rw [HTV.out]
          exact hfl4
        · show n - ((j : Int) + 1).toNat < n - (j : Int).toNat; omega
    · have hjn' : j = n := by omega
      subst hjn'
      rw [List.take_of_length_le (by have := HN.out; have := HL.out; omega)] at hfl
      rw [List.take_of_length_le (by have := HN.out; omega)] at hownU
      have HSU := Lib.hid (keys_slof (S := fun b => wS.heap.size ≤ b ∧ b < wo.heap.size) hownU HN.out (by omega) hs (fun b h1 h2 => ⟨h1, h2⟩))
      have HSV := Lib.hid (flat2_slof (S := fun b => wS.heap.size ≤ b ∧ b < wo.heap.size) hownV hfl (by rw [← HL.out]; exact HN.out) (by omega) (fun b h1 h2 => ⟨h1, h2⟩))
      obtain ⟨Au, cu, rfl⟩ := slice_of_own hownU
      obtain ⟨Aw, cw, rfl⟩ := slice_of_own hownV
      obtain ⟨x0, x1, x2, x3, x4, x5⟩ := box6 hOr
      obtain ⟨y0, y1, y2, y3, y4, y5⟩ := box6 hRr
      obtain ⟨f0, f1, f2, f3, f4, f5, _⟩ := frozen7 hRr
      clear hfl hownU hownV hkr hne
      go_wp2_with fail
      refine bodyPost_ret (v := .tuple #[.agg #[.int .i64 6, .int .i64 0, .string ⟨#[]⟩, .slice none 0 0, .slice Au j cu, .slice Aw j cw], .bool true]) (by simp [results, Tryz.results131, go_sem, *]) rfl ⟨_, _, rfl, ?_, ?_, below_set6 hbr (Nat.le_refl _) _ _ _ _ _ _⟩
      · exact HSU.out.imp (SCellsS.mono (fun b hb => set6_block _ _ _ _ _ _ _ _ b (by omega)) (fun b hb => ⟨by omega, by rw [set6_size]; exact hb.2⟩) ks)
      · exact HSV.out.imp (JCellsS.mono (fun b hb => set6_block _ _ _ _ _ _ _ _ b (by omega)) (fun b hb => ⟨by omega, by rw [set6_size]; exact hb.2⟩) vs)
end Go.Proofs.YtmjegeipnaalnaaGreatDoor
