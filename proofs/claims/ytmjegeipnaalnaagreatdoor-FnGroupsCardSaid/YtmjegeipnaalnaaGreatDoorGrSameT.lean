/- Two readings of one tree compared by the reference: they are the same. -/
import Derived.Test.YtmjegeipnaalnaaGreatDoorGrSameN
import Derived.Lib.QuietBelow
namespace Go.Proofs.YtmjegeipnaalnaaGreatDoor
open Go.RowKit

/-- What comparing two readings of one tree promises. -/
def CmpC (v : JV) : Prop := ∀ (x y : Value) (w : World), JVal w w.heap.size v x → JVal w w.heap.size v y → Calls Tryz.prog 80 #[x, y] w fun e w' => e = .returned (.int .i64 0) ∧ Below w.heap.size w w'

set_option maxRecDepth 100000 in
theorem texts_same (t : ByteArray) (w : World) : Calls Tryz.prog 127 #[.string t, .string t] w fun e w' => e = .returned (.int .i64 0) ∧ Below w.heap.size w w' := by
  have h := bl_irrefl t.toList
  go_enter Tryz.func127, Tryz.ntmps127
  go_wp2_with fail
  go_ret
  exact ⟨rfl, Below.refl _ _⟩

set_option maxRecDepth 100000 in
set_option maxHeartbeats 4000000 in
theorem keys_same (ks : List ByteArray) (A B : Option Addr) (n c d : Nat) (w : World) (hn : ks.length = n) (hm : n ≤ 9000000000000) (hA : n = 0 ∨ ∃ b o, A = some ⟨b, o, none⟩ ∧ SCells w w.heap.size ks b o) (hB : n = 0 ∨ ∃ b o, B = some ⟨b, o, none⟩ ∧ SCells w w.heap.size ks b o) :
    Calls Tryz.prog 128 #[.slice A n c, .slice B n d] w fun e w' => e = .returned (.int .i64 0) ∧ Below w.heap.size w w' := by
  have HN := Lib.hid hn
  have HA := Lib.hid hA
  have HB := Lib.hid hB
  clear hn hA hB
  go_enter Tryz.func128, Tryz.ntmps128
  go_wp2_with fail
  go_loopw [5] (fun i wr => ∃ j : Nat, j ≤ n ∧ i = .int .i64 j ∧ Below w.heap.size w wr) (fun i _ => n - (intOf i).toNat)
  case atStart => exact ⟨0, Nat.zero_le _, rfl, Below.refl _ _⟩
  case round =>
    obtain ⟨j, hj, rfl, hbr⟩ := hrel
    obtain ⟨wo, rfl⟩ : ∃ wo, wo = wr := ⟨_, rfl⟩
    by_cases hjn : j < n
    · have hjl : j < ks.length := by rw [HN.out]; exact hjn
      obtain ⟨b1, o1, rfl, hJ⟩ : ∃ b o, A = some ⟨b, o, none⟩ ∧ SCells w w.heap.size ks b o := HA.out.resolve_left (by omega)
      obtain ⟨b2, o2, rfl, hJ2⟩ : ∃ b o, B = some ⟨b, o, none⟩ ∧ SCells w w.heap.size ks b o := HB.out.resolve_left (by omega)
      obtain ⟨_, _, y0⟩ := SCells.get ks b1 o1 (SCells.below hbr (Nat.le_refl _) ks b1 o1 hJ) j hjl
      obtain ⟨_, _, z0⟩ := SCells.get ks b2 o2 (SCells.below hbr (Nat.le_refl _) ks b2 o2 hJ2) j hjl
      generalize ks[j] = k at *
      clear hJ hJ2
      have r0 := cell_regrown y0
      have r1 := cell_regrown z0
      have CT := Lib.hid (fun W => texts_same k W)
      clear y0 z0
      go_upto_region 4 with (fail)
      refine wp_region_quiet_below (by kernel_rfl) (by kernel_rfl) ?_
      repeat (go_big_quiet_step (first | (go_at_call 127; exact Calls.regrown_of (CT.out _))))
      refine wpQuiet_nil ?_
      intro w' hw'
      obtain ⟨⟨dq, osq⟩, rfl⟩ := hw'
      have hb4 : Below w.heap.size w (Sort.grow (redrawn wo dq) osq) := hbr.trans ((below_regrown wo dq osq).mono hbr.size)
      clear r0 r1
      go_wp2_with fail
      exact ⟨⟨j + 1, by omega, by go_num, hb4⟩, by simp [intOf]; omega⟩
    · have e0 : (n : Int) - n = 0 := by omega
      go_wp2_with fail
      go_ret
      exact ⟨by first | rfl | simp, hbr⟩

set_option maxRecDepth 100000 in
set_option maxHeartbeats 4000000 in
theorem lists_same (l : List JV) (ih : ∀ y ∈ l, CmpC y) (A B : Option Addr) (n c d : Nat) (w : World) (hn : l.length = n) (hm : n ≤ 9000000000000) (hA : n = 0 ∨ ∃ b o, A = some ⟨b, o, none⟩ ∧ JCells w w.heap.size l b o) (hB : n = 0 ∨ ∃ b o, B = some ⟨b, o, none⟩ ∧ JCells w w.heap.size l b o) :
    Calls Tryz.prog 118 #[.slice A n c, .slice B n d] w fun e w' => e = .returned (.int .i64 0) ∧ Below w.heap.size w w' := by
  have HN := Lib.hid hn
  have HA := Lib.hid hA
  have HB := Lib.hid hB
  clear hn hA hB
  go_enter Tryz.func118, Tryz.ntmps118
  go_wp2_with fail
  go_loopw [5] (fun i wr => ∃ j : Nat, j ≤ n ∧ i = .int .i64 j ∧ Below w.heap.size w wr) (fun i _ => n - (intOf i).toNat)
  case atStart => exact ⟨0, Nat.zero_le _, rfl, Below.refl _ _⟩
  case round =>
    obtain ⟨j, hj, rfl, hbr⟩ := hrel
    obtain ⟨wo, rfl⟩ : ∃ wo, wo = wr := ⟨_, rfl⟩
    by_cases hjn : j < n
    · have hjl : j < l.length := by rw [HN.out]; exact hjn
      obtain ⟨b1, o1, rfl, hJ⟩ : ∃ b o, A = some ⟨b, o, none⟩ ∧ JCells w w.heap.size l b o := HA.out.resolve_left (by omega)
      obtain ⟨b2, o2, rfl, hJ2⟩ : ∃ b o, B = some ⟨b, o, none⟩ ∧ JCells w w.heap.size l b o := HB.out.resolve_left (by omega)
      obtain ⟨_, d0, d1, d2, d3, d4, d5, hRep, y0, y1, y2, y3, y4, y5⟩ := (JCells.below hbr (Nat.le_refl _) l b1 o1 hJ).at6 j hjl
      obtain ⟨k1, h1, t1, A1, n1, m1, A2, n2, m2, A3, n3, m3, rfl, rfl, rfl, rfl, rfl, rfl⟩ := hRep.shape
      obtain ⟨_, e0, e1, e2, e3, e4, e5, hRep2, z0, z1, z2, z3, z4, z5⟩ := (JCells.below hbr (Nat.le_refl _) l b2 o2 hJ2).at6 j hjl
      obtain ⟨k2, h2, t2, B1, p1, q1, B2, p2, q2, B3, p3, q3, rfl, rfl, rfl, rfl, rfl, rfl⟩ := hRep2.shape
      have CI := Lib.hid (fun dd os => ih l[j] (List.getElem_mem hjl) (.agg #[.int .i64 k1, .int .i64 h1, .string t1, .slice A1 n1 m1, .slice A2 n2 m2, .slice A3 n3 m3]) (.agg #[.int .i64 k2, .int .i64 h2, .string t2, .slice B1 p1 q1, .slice B2 p2 q2, .slice B3 p3 q3]) (Sort.grow (redrawn wo dd) os)
        ⟨_, _, _, _, _, _, rfl, hRep.below ((below_regrown wo dd os).mono hbr.size) (by have := (below_regrown wo dd os).size; have := hbr.size; omega)⟩ ⟨_, _, _, _, _, _, rfl, hRep2.below ((below_regrown wo dd os).mono hbr.size) (by have := (below_regrown wo dd os).size; have := hbr.size; omega)⟩)
      clear hJ hJ2 hRep hRep2
      have r0 := cell_regrown y0
      have r1 := cell_regrown y1
      have r2 := cell_regrown y2
      have r3 := cell_regrown y3
      have r4 := cell_regrown y4
      have r5 := cell_regrown y5
      have s0 := cell_regrown z0
      have s1 := cell_regrown z1
      have s2 := cell_regrown z2
      have s3 := cell_regrown z3
      have s4 := cell_regrown z4
      have s5 := cell_regrown z5
      clear y0 y1 y2 y3 y4 y5 z0 z1 z2 z3 z4 z5
      go_upto_region 4 with (fail)
      refine wp_region_quiet_below (by kernel_rfl) (by kernel_rfl) ?_
      repeat (go_big_quiet_step (first | (go_at_call 80; exact Calls.regrown_of (CI.out _ _))))
      refine wpQuiet_nil ?_
      intro w' hw'
      obtain ⟨⟨dq, osq⟩, rfl⟩ := hw'
      have hb4 : Below w.heap.size w (Sort.grow (redrawn wo dq) osq) := hbr.trans ((below_regrown wo dq osq).mono hbr.size)
      clear r0 r1 r2 r3 r4 r5 s0 s1 s2 s3 s4 s5
      go_wp2_with fail
      exact ⟨⟨j + 1, by omega, by go_num, hb4⟩, by simp [intOf]; omega⟩
    · have e0 : (n : Int) - n = 0 := by omega
      go_wp2_with fail
      go_ret
      exact ⟨by first | rfl | simp, hbr⟩

theorem sgn0 : sgn 0 = 0 := rfl
set_option maxRecDepth 100000 in
set_option maxHeartbeats 4000000 in
theorem cmp_all : ∀ v, Good v → CmpC v := by
  refine JV.ind fun k h t l ks vs ihl ihv => ?_
  intro hg x y w hx hy
  obtain ⟨g1, g2, _, hlen, _, g6, g7, _, _, x10, x11⟩ := hg.head
  obtain ⟨a0, a1, a2, rfl, _, _, _, ⟨A1, c1, rfl, _, q1, u1⟩, ⟨A2, c2, rfl, _, q2, u2⟩, ⟨A3, c3, rfl, _, q3, u3⟩⟩ := hx.laid
  obtain ⟨b0, b1, b2, rfl, _, _, _, ⟨B1, e1, rfl, _, _, v1⟩, ⟨B2, e2, rfl, _, _, v2⟩, ⟨B3, e3, rfl, _, _, v3⟩⟩ := hy.laid
  obtain ⟨hX, hY⟩ := two_new w (.cells #[.int .i64 k, .int .i64 h, .string t, .slice A1 l.length c1, .slice A2 ks.length c2, .slice A3 vs.length c3] 26) (.cells #[.int .i64 k, .int .i64 h, .string t, .slice B1 l.length e1, .slice B2 ks.length e2, .slice B3 vs.length e3] 26)
  have hB := ((Below.refl w.heap.size w).alloc (Nat.le_refl _) (.cells #[.int .i64 k, .int .i64 h, .string t, .slice A1 l.length c1, .slice A2 ks.length c2, .slice A3 vs.length c3] 26)).alloc (by simp) (.cells #[.int .i64 k, .int .i64 h, .string t, .slice B1 l.length e1, .slice B2 ks.length e2, .slice B3 vs.length e3] 26)
  have hsz : w.heap.size + 2 ≤ ((w.alloc (.cells #[.int .i64 k, .int .i64 h, .string t, .slice A1 l.length c1, .slice A2 ks.length c2, .slice A3 vs.length c3] 26)).alloc (.cells #[.int .i64 k, .int .i64 h, .string t, .slice B1 l.length e1, .slice B2 ks.length e2, .slice B3 vs.length e3] 26)).heap.size := by simp
  have CL := Lib.hid (fun W (hW : Below w.heap.size w W) => lists_same l (fun z hz => ihl z hz (x10.get z hz)) A1 B1 l.length c1 e1 W rfl (by omega) (u1.imp id fun ⟨b, o, h1, h2⟩ => ⟨b, o, h1, JCells.below hW hW.size l b o h2⟩) (v1.imp id fun ⟨b, o, h1, h2⟩ => ⟨b, o, h1, JCells.below hW hW.size l b o h2⟩))
  have CV := Lib.hid (fun W (hW : Below w.heap.size w W) => lists_same vs (fun z hz => ihv z hz (x11.get z hz)) A3 B3 vs.length c3 e3 W rfl (by omega) (u3.imp id fun ⟨b, o, h1, h2⟩ => ⟨b, o, h1, JCells.below hW hW.size vs b o h2⟩) (v3.imp id fun ⟨b, o, h1, h2⟩ => ⟨b, o, h1, JCells.below hW hW.size vs b o h2⟩))
  have CK := Lib.hid (fun W (hW : Below w.heap.size w W) => keys_same ks A2 B2 ks.length c2 e2 W rfl (by omega) (u2.imp id fun ⟨b, o, h1, h2⟩ => ⟨b, o, h1, SCells.below hW hW.size ks b o h2⟩) (v2.imp id fun ⟨b, o, h1, h2⟩ => ⟨b, o, h1, SCells.below hW hW.size ks b o h2⟩))
  have CT := Lib.hid (fun W => texts_same t W)
  have CS := Lib.hid (fun W => sign_walk 0 W)
  have hk : k = 0 ∨ k = 1 ∨ k = 2 ∨ k = 3 ∨ k = 4 ∨ k = 5 ∨ k = 6 := by omega
  have h0 : h - h = 0 := by omega
  clear hx hy u1 u2 u3 v1 v2 v3 ihl ihv hg g1 g2 x10 x11 q1 q2 q3
  generalize l.length = n1 at *
  generalize ks.length = n2 at *
  generalize vs.length = n3 at *
  clear hlen
  by_cases h6 : k = 6
  · subst h6
    clear hk
    go_enter Tryz.func80, Tryz.ntmps80
    go_upto_region 1 with (fail)
    generalize ((w.alloc (.cells #[.int .i64 6, .int .i64 h, .string t, .slice A1 n1 c1, .slice A2 n2 c2, .slice A3 n3 c3] 26)).alloc (.cells #[.int .i64 6, .int .i64 h, .string t, .slice B1 n1 e1, .slice B2 n2 e2, .slice B3 n3 e3] 26)) = w2 at *
    obtain ⟨p0, p1, p2, p3, p4, p5, r0, r1, r2, r3, r4, r5⟩ := boxes12 (Below.refl _ w2) hX hY
    go_wp2_with fail
    refine (CK.out w2 hB).mono ?_
    rintro e w3 ⟨rfl, hb3⟩
    clear p0 p1 p2 p3 p4 p5 r0 r1 r2 r3 r4 r5
    have hB3 := hB.trans (hb3.mono (by omega))
    obtain ⟨p0, p1, p2, p3, p4, p5, r0, r1, r2, r3, r4, r5⟩ := boxes12 (hb3.mono hsz) hX hY
    have hb3s := hb3.size
    clear hb3
    go_wp2_with fail
    refine (CV.out w3 hB3).mono ?_
    rintro e w4 ⟨rfl, hb4⟩
    go_wp2_with fail
    refine (CS.out _).mono ?_
    rintro e w5 ⟨rfl, hw5⟩
    obtain rfl := hw5.symm
    rw [sgn0]
    go_wp2_with fail
    go_ret
    exact ⟨rfl, hB3.trans (hb4.mono (by omega))⟩
  rcases hk with rfl | rfl | rfl | rfl | rfl | rfl | rfl
  all_goals first
    | exact absurd rfl h6
    | skip
  all_goals as_aux_lemma =>
    clear h6
    go_enter Tryz.func80, Tryz.ntmps80
    go_upto_region 1 with (fail)
    generalize ((w.alloc (.cells #[.int .i64 _, .int .i64 h, .string t, .slice A1 n1 c1, .slice A2 n2 c2, .slice A3 n3 c3] 26)).alloc (.cells #[.int .i64 _, .int .i64 h, .string t, .slice B1 n1 e1, .slice B2 n2 e2, .slice B3 n3 e3] 26)) = w2 at *
    obtain ⟨p0, p1, p2, p3, p4, p5, r0, r1, r2, r3, r4, r5⟩ := boxes12 (Below.refl _ w2) hX hY
    go_wp2_with (first
      | (go_at_call 126; refine (CS.out _).mono ?_; rintro e w3 ⟨rfl, rfl⟩; rw [sgn0])
      | (go_at_call 127; refine (CT.out _).mono ?_; rintro e w3 ⟨rfl, hb3⟩)
      | (go_at_call 118; refine (CL.out w2 hB).mono ?_; rintro e w3 ⟨rfl, hb3⟩))
    go_ret
    first
      | exact ⟨rfl, hB⟩
      | exact ⟨rfl, hB.trans (hb3.mono (by omega))⟩

set_option maxRecDepth 100000 in
set_option maxHeartbeats 4000000 in
/-- Two readings of one tree are the same. -/
theorem same_all (v : JV) (hg : Good v) (x y : Value) (w : World) (hx : JVal w w.heap.size v x) (hy : JVal w w.heap.size v y) :
    Calls Tryz.prog 40 #[x, y] w fun e w' => e = .returned (.bool true) ∧ Below w.heap.size w w' := by
  have CC := Lib.hid (fun W a b => cmp_all v hg x y W a b)
  obtain ⟨k, h, t, l, ks, vs⟩ := v
  obtain ⟨a0, a1, a2, rfl, _⟩ := hx.laid
  obtain ⟨b0, b1, b2, rfl, _⟩ := hy.laid
  obtain ⟨hX, hY⟩ := two_new w (.cells #[.int .i64 k, .int .i64 h, .string t, a0, a1, a2] 26) (.cells #[.int .i64 k, .int .i64 h, .string t, b0, b1, b2] 26)
  have hB := ((Below.refl w.heap.size w).alloc (Nat.le_refl _) (.cells #[.int .i64 k, .int .i64 h, .string t, a0, a1, a2] 26)).alloc (by simp) (.cells #[.int .i64 k, .int .i64 h, .string t, b0, b1, b2] 26)
  have hsz : w.heap.size + 2 ≤ ((w.alloc (.cells #[.int .i64 k, .int .i64 h, .string t, a0, a1, a2] 26)).alloc (.cells #[.int .i64 k, .int .i64 h, .string t, b0, b1, b2] 26)).heap.size := by simp
  clear hg
  go_enter Tryz.func40, Tryz.ntmps40
  go_upto_region 1 with (fail)
  generalize ((w.alloc (.cells #[.int .i64 k, .int .i64 h, .string t, a0, a1, a2] 26)).alloc (.cells #[.int .i64 k, .int .i64 h, .string t, b0, b1, b2] 26)) = w2 at *
  obtain ⟨p0, p1, p2, p3, p4, p5, r0, r1, r2, r3, r4, r5⟩ := boxes12 (Below.refl _ w2) hX hY
  go_wp2_with fail
  refine (CC.out w2 (hx.below hB (by omega)) (hy.below hB (by omega))).mono ?_
  rintro e w3 ⟨rfl, hb3⟩
  go_wp2_with fail
  go_ret
  exact ⟨by first | rfl | simp, hB.trans (hb3.mono (by omega))⟩
end Go.Proofs.YtmjegeipnaalnaaGreatDoor
