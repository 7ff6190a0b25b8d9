/- Nothing of a right value is vague: the walk. The reference's containment, called by its name. -/
import Derived.Test.YtmjegeipnaalnaaGreatDoorGrHoldsM

/- Nothing of a right value is vague: the walk. -/
namespace Go.Proofs.YtmjegeipnaalnaaGreatDoor
open Go.RowKit

def VagueC (v : JV) : Prop := ∀ (x : Value) (w : World), JVal w w.heap.size v x → Good v → Calls Tryz.prog 35 #[x] w fun e w' => e = .returned (.bool false) ∧ Below w.heap.size w w'

set_option maxRecDepth 100000 in
set_option maxHeartbeats 4000000 in
theorem vague_all : ∀ v, VagueC v := by
  refine JV.ind fun k h t l ks vs ihl ihv => ?_
  intro x w hx gx
  obtain ⟨x1, x2, x3, x4, x5, x6, x7, x8, x9, gl, gv⟩ := gx.head
  obtain ⟨vl, vk, vv, rfl, _, _, _, ⟨A, c, rfl, hc1, hc2, hl⟩, _, ⟨A3, c3, rfl, hb1, hb2, hV⟩⟩ := hx.laid
  have hk7 : k ≠ 7 := by omega
  clear hx gx x1 x2 x3 x4 x5 x6 x7 x8 x9
  have hX := heap_alloc_new w (.cells #[.int .i64 k, .int .i64 h, .string t, .slice A l.length c, vk, .slice A3 vs.length c3] 26)
  have hB := (Below.refl w.heap.size w).alloc (Nat.le_refl _) (.cells #[.int .i64 k, .int .i64 h, .string t, .slice A l.length c, vk, .slice A3 vs.length c3] 26)
  have hsz : w.heap.size + 1 ≤ (w.alloc (.cells #[.int .i64 k, .int .i64 h, .string t, .slice A l.length c, vk, .slice A3 vs.length c3] 26)).heap.size := by simp
  generalize hn : l.length = n at *
  generalize hnv : vs.length = nv at *
  have HN := Lib.hid hn
  have HNV := Lib.hid hnv
  have HL := Lib.hid hl
  have HV := Lib.hid hV
  clear hn hnv hl hV
  go_enter Tryz.func35, Tryz.ntmps35
  go_upto_region 1 with (fail)
  generalize w.alloc (.cells #[.int .i64 k, .int .i64 h, .string t, .slice A n c, vk, .slice A3 nv c3] 26) = w1 at *
  obtain ⟨p0, p1, p2, p3, p4, p5⟩ := box6 hX
  go_wp2_with fail
  go_loopw [10] (fun i wr => ∃ j : Nat, j ≤ n ∧ i = .int .i64 j ∧ Below (w.heap.size + 1) w1 wr) (fun i _ => n - (intOf i).toNat)
  case atStart => exact ⟨0, Nat.zero_le _, rfl, Below.refl _ _⟩
  case round =>
    obtain ⟨j, hj, rfl, hbr⟩ := hrel
    obtain ⟨wo, rfl⟩ : ∃ wo, wo = wr := ⟨_, rfl⟩
    have hbw : Below w.heap.size w wo := hB.trans (hbr.mono (by omega))
    have hsw : w.heap.size + 1 ≤ wo.heap.size := Nat.le_trans hsz hbr.size
    by_cases hjn : j < n
    · have hjl : j < l.length := by rw [HN.out]; exact hjn
      obtain ⟨b2, o2, rfl, hJ⟩ : ∃ b o, A = some ⟨b, o, none⟩ ∧ JCells w w.heap.size l b o := by
        rcases HL.out with h0 | h0
        · omega
        · exact h0
      obtain ⟨hb2, d0, d1, d2, d3, d4, d5, hRep, y0, y1, y2, y3, y4, y5⟩ := (JCells.below hbw (Nat.le_refl _) l b2 o2 hJ).at6 j hjl
      clear hJ
      obtain ⟨k1, h1, t1, A1, n1, m1, A2, n2, m2, A4, n3, m3, rfl, rfl, rfl, rfl, rfl, rfl⟩ := hRep.shape
      have hC := ihl _ (List.getElem_mem hjl)
      have hG := gl.get _ (List.getElem_mem hjl)
      generalize l[j] = y at *
      go_upto_region 4 with (fail)
      have hE := heap_alloc_new wo (.cells #[.int .i64 k1, .int .i64 h1, .string t1, .slice A1 n1 m1, .slice A2 n2 m2, .slice A4 n3 m3] 26)
      have hbz := (Below.refl wo.heap.size wo).alloc (Nat.le_refl _) (.cells #[.int .i64 k1, .int .i64 h1, .string t1, .slice A1 n1 m1, .slice A2 n2 m2, .slice A4 n3 m3] 26)
      have hszz : wo.heap.size + 1 ≤ (wo.alloc (.cells #[.int .i64 k1, .int .i64 h1, .string t1, .slice A1 n1 m1, .slice A2 n2 m2, .slice A4 n3 m3] 26)).heap.size := by simp
      generalize wo.alloc (.cells #[.int .i64 k1, .int .i64 h1, .string t1, .slice A1 n1 m1, .slice A2 n2 m2, .slice A4 n3 m3] 26) = wz at *
      obtain ⟨z0, z1, z2, z3, z4, z5⟩ := box6 hE
      have C := Lib.hid (hC (.agg #[.int .i64 k1, .int .i64 h1, .string t1, .slice A1 n1 m1, .slice A2 n2 m2, .slice A4 n3 m3]) wz ⟨_, _, _, _, _, _, rfl, hRep.below (hbz.mono (by omega)) (by omega)⟩ hG)
      clear hC hRep
      go_wp2_with fail
      refine C.out.mono ?_
      rintro e wc ⟨rfl, hbc⟩
      go_wp2_with fail
      exact ⟨⟨j + 1, by omega, by go_num, (hbr.trans (hbz.mono hsw)).trans (hbc.mono (by omega))⟩, by simp [intOf]; omega⟩
    · obtain ⟨p0, p1, p2, p3, p4, p5⟩ := box6 (kept_below hbr (by omega) hX)
      have hXo := kept_below hbr (by omega) hX
      go_wp2_with fail
      go_loopw [20] (fun i wr => ∃ j : Nat, j ≤ nv ∧ i = .int .i64 j ∧ Below (w.heap.size + 1) wo wr) (fun i _ => nv - (intOf i).toNat)
      case atStart => exact ⟨0, Nat.zero_le _, rfl, Below.refl _ _⟩
      case round =>
        obtain ⟨j2, hj2, rfl, hbr2⟩ := hrel
        obtain ⟨wq, rfl⟩ : ∃ wq, wq = wr := ⟨_, rfl⟩
        have hbw2 : Below w.heap.size w wq := hbw.trans (hbr2.mono (by omega))
        have hsw2 : w.heap.size + 1 ≤ wq.heap.size := Nat.le_trans hsw hbr2.size
        by_cases hjn2 : j2 < nv
        · have hjl : j2 < vs.length := by rw [HNV.out]; exact hjn2
          obtain ⟨b2, o2, rfl, hJ⟩ : ∃ b o, A3 = some ⟨b, o, none⟩ ∧ JCells w w.heap.size vs b o := by
            rcases HV.out with h0 | h0
            · omega
            · exact h0
          obtain ⟨hb2, d0, d1, d2, d3, d4, d5, hRep, y0, y1, y2, y3, y4, y5⟩ := (JCells.below hbw2 (Nat.le_refl _) vs b2 o2 hJ).at6 j2 hjl
          clear hJ
          obtain ⟨k1, h1, t1, A1, n1, m1, A2, n2, m2, A4, n3, m3, rfl, rfl, rfl, rfl, rfl, rfl⟩ := hRep.shape
          have hC := ihv _ (List.getElem_mem hjl)
          have hG := gv.get _ (List.getElem_mem hjl)
          generalize vs[j2] = y at *
          go_upto_region 10 with (fail)
          have hE := heap_alloc_new wq (.cells #[.int .i64 k1, .int .i64 h1, .string t1, .slice A1 n1 m1, .slice A2 n2 m2, .slice A4 n3 m3] 26)
          have hbz := (Below.refl wq.heap.size wq).alloc (Nat.le_refl _) (.cells #[.int .i64 k1, .int .i64 h1, .string t1, .slice A1 n1 m1, .slice A2 n2 m2, .slice A4 n3 m3] 26)
          have hszz : wq.heap.size + 1 ≤ (wq.alloc (.cells #[.int .i64 k1, .int .i64 h1, .string t1, .slice A1 n1 m1, .slice A2 n2 m2, .slice A4 n3 m3] 26)).heap.size := by simp
          generalize wq.alloc (.cells #[.int .i64 k1, .int .i64 h1, .string t1, .slice A1 n1 m1, .slice A2 n2 m2, .slice A4 n3 m3] 26) = wz at *
          obtain ⟨z0, z1, z2, z3, z4, z5⟩ := box6 hE
          have C := Lib.hid (hC (.agg #[.int .i64 k1, .int .i64 h1, .string t1, .slice A1 n1 m1, .slice A2 n2 m2, .slice A4 n3 m3]) wz ⟨_, _, _, _, _, _, rfl, hRep.below (hbz.mono (by omega)) (by omega)⟩ hG)
          clear hC hRep
          go_wp2_with fail
          refine C.out.mono ?_
          rintro e wc ⟨rfl, hbc⟩
          go_wp2_with fail
          exact ⟨⟨j2 + 1, by omega, by go_num, (hbr2.trans (hbz.mono hsw2)).trans (hbc.mono (by omega))⟩, by simp [intOf]; omega⟩
        · obtain ⟨p0, p1, p2, p3, p4, p5⟩ := box6 (kept_below hbr2 (by omega) hXo)
          go_wp2_with fail
          go_ret
          refine ⟨?_, hbw2⟩
          first | rfl | simp [hk7]
end Go.Proofs.YtmjegeipnaalnaaGreatDoor

/- The reference's containment, called by its name. -/
namespace Go.Proofs.YtmjegeipnaalnaaGreatDoor
open Go.RowKit

set_option maxRecDepth 100000 in
set_option maxHeartbeats 4000000 in
theorem along_walk (x y : JV) (vx vy : Value) (w : World) (hx : JVal w w.heap.size x vx) (hy : JVal w w.heap.size y vy) (gx : Good x) (gy : Good y) :
    Calls Tryz.prog 37 #[.string ⟨#[99, 111, 110, 116, 97, 105, 110, 115]⟩, vx, vy] w fun e w' => e = .returned (.tuple #[kV (saidK x y), .int .i64 (saidHow x y)]) ∧ Below w.heap.size w w' := by
  have HALL := Lib.hid (fun W a b c d => contains_walk x y vx vy W a b c d)
  generalize saidK x y = kz at *
  generalize saidHow x y = hz at *
  obtain ⟨k, h, t, l, ks, vs⟩ := x
  obtain ⟨k', h', t', l', ks', vs'⟩ := y
  obtain ⟨a0, a1, a2, rfl, _⟩ := hx.laid
  obtain ⟨b0, b1, b2, rfl, _⟩ := hy.laid
  obtain ⟨hA, hB, hC⟩ := three_new' w (.cells #[.int .i64 k, .int .i64 h, .string t, a0, a1, a2] 26) (.cells #[.int .i64 k', .int .i64 h', .string t', b0, b1, b2] 26) (.cells #[.int .i64 0, .int .i64 0, .string ⟨#[]⟩, .slice none 0 0, .slice none 0 0, .slice none 0 0] 26)
  have hw := (((Below.refl w.heap.size w).alloc (Nat.le_refl _) (.cells #[.int .i64 k, .int .i64 h, .string t, a0, a1, a2] 26)).alloc (by simp) (.cells #[.int .i64 k', .int .i64 h', .string t', b0, b1, b2] 26)).alloc (by simp; omega) (.cells #[.int .i64 0, .int .i64 0, .string ⟨#[]⟩, .slice none 0 0, .slice none 0 0, .slice none 0 0] 26)
  have hsz : w.heap.size + 2 < (((w.alloc (.cells #[.int .i64 k, .int .i64 h, .string t, a0, a1, a2] 26)).alloc (.cells #[.int .i64 k', .int .i64 h', .string t', b0, b1, b2] 26)).alloc (.cells #[.int .i64 0, .int .i64 0, .string ⟨#[]⟩, .slice none 0 0, .slice none 0 0, .slice none 0 0] 26)).heap.size := by simp
  unfold kV
  go_enter Tryz.func37, Tryz.ntmps37
  go_upto_region 1 with (fail)
  generalize (((w.alloc (.cells #[.int .i64 k, .int .i64 h, .string t, a0, a1, a2] 26)).alloc (.cells #[.int .i64 k', .int .i64 h', .string t', b0, b1, b2] 26)).alloc (.cells #[.int .i64 0, .int .i64 0, .string ⟨#[]⟩, .slice none 0 0, .slice none 0 0, .slice none 0 0] 26)) = w1 at *
  obtain ⟨p0, p1, p2, p3, p4, p5⟩ := box6 hA
  obtain ⟨q0, q1, q2, q3, q4, q5⟩ := box6 hB
  have C := Lib.hid (HALL.out w1 (hx.below hw (by omega)) (hy.below hw (by omega)) gx gy)
  clear HALL hx hy gx gy
  go_wp2_with fail
  refine C.out.mono ?_
  rintro e w2 ⟨rfl, hb⟩
  replace hC := kept_below hb (by omega) hC
  replace hw := hw.trans (hb.mono (by omega))
  have hsz2 : w.heap.size + 2 < w2.heap.size := by have := hb.size; omega
  clear p0 p1 p2 p3 p4 p5 q0 q1 q2 q3 q4 q5 hb hsz hA hB C
  obtain ⟨x0, x1, x2, x3, x4, x5⟩ := box6 hC
  obtain ⟨f0, f1, f2, f3, f4, f5, _⟩ := frozen7 hC
  have HB := Lib.hid (below_set6 hw (Nat.le_add_right _ 2) (.int .i64 kz) (.int .i64 0) (.string ⟨#[]⟩) (.slice none 0 0) (.slice none 0 0) (.slice none 0 0))
  clear hw
  unfold kV
  go_wp2
  refine bodyPost_ret (v := .tuple #[.agg #[.int .i64 kz, .int .i64 0, .string ⟨#[]⟩, .slice none 0 0, .slice none 0 0, .slice none 0 0], .int .i64 hz]) (by simp [results, Tryz.results37, go_sem, *]) rfl ⟨rfl, ?_⟩
  exact HB.out

set_option maxRecDepth 100000 in
set_option maxHeartbeats 1000000 in
theorem Array_walk (A : Option Addr) (n c : Nat) (w : World) :
    Calls Tryz.prog 13 #[.slice A n c] w fun e w' => e = .returned (.agg #[.int .i64 5, .int .i64 0, .string ⟨#[]⟩, .slice A n c, .slice none 0 0, .slice none 0 0]) ∧ Below w.heap.size w w' := by
  have hX := heap_alloc_new w (.cells #[.int .i64 0, .int .i64 0, .string ⟨#[]⟩, .slice none 0 0, .slice none 0 0, .slice none 0 0] 26)
  have hB := (Below.refl w.heap.size w).alloc (Nat.le_refl _) (.cells #[.int .i64 0, .int .i64 0, .string ⟨#[]⟩, .slice none 0 0, .slice none 0 0, .slice none 0 0] 26)
  have hsz : w.heap.size < (w.alloc (.cells #[.int .i64 0, .int .i64 0, .string ⟨#[]⟩, .slice none 0 0, .slice none 0 0, .slice none 0 0] 26)).heap.size := by simp
  go_enter Tryz.func13, Tryz.ntmps13
  go_upto_region 1 with (fail)
  generalize w.alloc (.cells #[.int .i64 0, .int .i64 0, .string ⟨#[]⟩, .slice none 0 0, .slice none 0 0, .slice none 0 0] 26) = w1 at *
  obtain ⟨x0, x1, x2, x3, x4, x5⟩ := box6 hX
  obtain ⟨f0, f1, f2, f3, f4, f5, _⟩ := frozen7 hX
  have HB := Lib.hid (below_set6 hB (Nat.le_refl _) (.int .i64 5) (.int .i64 0) (.string ⟨#[]⟩) (.slice A n c) (.slice none 0 0) (.slice none 0 0))
  clear hB
  go_wp2
  refine bodyPost_ret (v := .agg #[.int .i64 5, .int .i64 0, .string ⟨#[]⟩, .slice A n c, .slice none 0 0, .slice none 0 0]) (by simp [results, Tryz.results13, go_sem, *]) rfl ⟨rfl, ?_⟩
  exact HB.out
end Go.Proofs.YtmjegeipnaalnaaGreatDoor
