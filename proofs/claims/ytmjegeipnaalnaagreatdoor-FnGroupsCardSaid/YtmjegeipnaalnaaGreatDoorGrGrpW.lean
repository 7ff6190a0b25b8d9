/- FnGroups: its walk where the guard is passed: it returns true, and nothing below its heap is changed. FnGroups: its walk, whatever its arguments are: it returns true, and nothing below its heap is changed. -/
import Derived.Test.YtmjegeipnaalnaaGreatDoorGrPairsW
import Derived.Test.YtmjegeipnaalnaaGreatDoorGrApL
import Derived.Deep.DeepCutAuto
import Derived.Test.YtmjegeipnaalnaaGreatDoorGrSymT

/- FnGroups: its walk where the guard is passed: it returns true, and nothing below its heap is changed. -/
namespace Go.Proofs.YtmjegeipnaalnaaGreatDoor
open Go.RowKit

/-- The groups' values. -/
def grpV (l k : List JV) : List (List JV) := (grpT l k).map fun g => g.map (ofL l)
theorem grpV_law (l k : List JV) : (grpV l k).flatten = (sortT l k).map (ofL l) ∧ (∀ g ∈ grpV l k, 0 < g.length) ∧ (grpV l k).map (·.headD nullT) = (unqT l k).map (ofL l) ∧ (grpV l k).map listT = (grpT l k).map fun g => listT (g.map (ofL l)) := by
  obtain ⟨h1, h2, h3⟩ := groups_law l k
  refine ⟨h1, fun g hg => ?_, ?_, ?_⟩
  · unfold grpV at hg
    obtain ⟨q, hq, rfl⟩ := List.mem_map.1 hg
    rw [List.length_map]
    exact List.length_pos_iff.2 (h2 q hq)
  · rw [← h3]
    unfold grpV
    rw [List.map_map]
    refine List.map_congr_left fun q hq => ?_
    have := h2 q hq
    cases q with
    | nil => exact absurd rfl this
    | cons a r => rfl
  · unfold grpV
    rw [List.map_map]
    rfl
theorem flat_len (gs : List (List JV)) : ∀ j, ((gs.take j).flatten).length ≤ gs.flatten.length := fun j => by
  have h : gs.flatten = (gs.take j).flatten ++ (gs.drop j).flatten := by rw [← List.flatten_append, List.take_append_drop]
  rw [h, List.length_append]
  omega
theorem elem_len (gs : List (List JV)) (j : Nat) (h : j < gs.length) : ((gs.take j).flatten).length + gs[j].length ≤ gs.flatten.length := by
  have h1 := flat_len gs (j + 1)
  rw [List.take_succ_eq_append_getElem h, List.flatten_append, List.length_append] at h1
  have h2 : ([gs[j]].flatten).length = gs[j].length := by simp
  omega
theorem perm_len (l k : List JV) (h : InB l.length (sortT l k)) : (grpV l k).flatten.length = l.length := by
  rw [(grpV_law l k).1, List.length_map, h.1]

set_option maxRecDepth 100000 in
set_option maxHeartbeats 16000000 in
theorem Groups_yes (l k : List JV) (P1 P2 : Option Addr) (n1 n2 m1 m2 : Nat) (w : World) (hl : SlOf l.length 104 (JCells w w.heap.size l) (.slice P1 n1 m1)) (hk : SlOf k.length 104 (JCells w w.heap.size k) (.slice P2 n2 m2)) (hT : Tabs w)
    (hok : ByOk l k) (hn : l.length ≤ 400) (hp : pairsB l k = true) (hin : InB l.length (sortT l k)) :
    Calls Tryz.prog 4 #[.slice P1 n1 m1, .slice P2 n2 m2] w fun e w' => e = .returned (.bool true) ∧ Below w.heap.size w w' := by
  have e1 := (slof_len hl).1
  have e2 := (slof_len hk).1
  have h1 : n1 ≤ 400 := by omega
  have h2 : n2 ≤ 400 := by have := hok.len; omega
  have hd1 : decide ((2147483647 : Int) < n1) = false := by simp; omega
  have hd2 : decide ((2147483647 : Int) < n2) = false := by simp; omega
  have CP := Lib.hid (hp ▸ pairs_walk l k P1 P2 n1 m1 n2 m2 w hl hk hT)
  have HVL := Lib.hid (fun W (hW : Below w.heap.size w W) => list_val (slof_below hl hW))
  have HVK := Lib.hid (fun W (hW : Below w.heap.size w W) => list_val (slof_below hk hW))
  obtain ⟨gl1, gl2, gl3, gl4⟩ := grpV_law l k
  have hfl := perm_len l k hin
  have hmG := grp_mem hin
  have hgd := grp_door hok
  rw [← gl4] at hgd
  have HGD := Lib.hid hgd
  have HSD := Lib.hid (sort_door hok)
  have HUD := Lib.hid (unq_door hok)
  have HSG := Lib.hid (show Good (listT ((sortT l k).map (ofL l))) from good_list' (vals_good hok.gl hin.2))
  have HUG := Lib.hid (show Good (listT ((unqT l k).map (ofL l))) from good_list' (vals_good hok.gl (unq_mem hin).1))
  have hgl : (grpV l k).length ≤ 400 := by unfold grpV; rw [List.length_map]; have := hmG.2; omega
  have hfl2 : (grpV l k).flatten.length ≤ 400 := by omega
  rw [← gl1] at HSG HSD
  rw [← gl3] at HUG HUD
  generalize grpV l k = gs at *
  have HPOS := Lib.hid gl2
  have HOK := Lib.hid hok
  clear e1 e2 hl hk hp hT gl1 gl2 gl3 gl4 hfl hmG hgd hok hin hn
  go_enter Tryz.func4, Tryz.ntmps4
  go_wp2_with fail
  refine CP.out.mono ?_
  rintro e w1 ⟨rfl, hb1⟩
  go_wp2_with fail
  refine (Array_walk P1 n1 m1 w1).mono ?_
  rintro e w2 ⟨rfl, hb2⟩
  go_wp2_with fail
  refine (Array_walk P2 n2 m2 w2).mono ?_
  rintro e w3 ⟨rfl, hb3⟩
  have hw3 := (hb1.trans (hb2.mono hb1.size)).trans (hb3.mono (by have := hb1.size; have := hb2.size; omega))
  clear hb1 hb2 hb3 CP hd1 hd2
  go_upto_region 6 with (fail)
  have hs3 := hw3.size
  obtain ⟨hV, hW⟩ := two_new w3 (.cells #[.int .i64 5, .int .i64 0, .string ⟨#[]⟩, .slice P1 n1 m1, .slice none 0 0, .slice none 0 0] 26) (.cells #[.int .i64 5, .int .i64 0, .string ⟨#[]⟩, .slice P2 n2 m2, .slice none 0 0, .slice none 0 0] 26)
  have hw4 := (hw3.alloc hs3 (.cells #[.int .i64 5, .int .i64 0, .string ⟨#[]⟩, .slice P1 n1 m1, .slice none 0 0, .slice none 0 0] 26)).alloc (by simp; omega) (.cells #[.int .i64 5, .int .i64 0, .string ⟨#[]⟩, .slice P2 n2 m2, .slice none 0 0, .slice none 0 0] 26)
  have hs4 : w3.heap.size + 2 ≤ ((w3.alloc (.cells #[.int .i64 5, .int .i64 0, .string ⟨#[]⟩, .slice P1 n1 m1, .slice none 0 0, .slice none 0 0] 26)).alloc (.cells #[.int .i64 5, .int .i64 0, .string ⟨#[]⟩, .slice P2 n2 m2, .slice none 0 0, .slice none 0 0] 26)).heap.size := by simp
  generalize ((w3.alloc (.cells #[.int .i64 5, .int .i64 0, .string ⟨#[]⟩, .slice P1 n1 m1, .slice none 0 0, .slice none 0 0] 26)).alloc (.cells #[.int .i64 5, .int .i64 0, .string ⟨#[]⟩, .slice P2 n2 m2, .slice none 0 0, .slice none 0 0] 26)) = w4 at *
  have C4 := Lib.hid (GroupBy_walk l k _ HGD.out HOK.out.gl HOK.out.gk _ _ w4 (HVL.out w4 hw4) (HVK.out w4 hw4))
  have HVB := Lib.hid hV
  have HWB := Lib.hid hW
  obtain ⟨p0, p1, p2, p3, p4, p5⟩ := box6 hV
  obtain ⟨q0, q1, q2, q3, q4, q5⟩ := box6 hW
  clear hV hW HGD hw3
  go_wp2_with fail
  refine C4.out.mono ?_
  rintro e w5 ⟨hby, hb5⟩
  obtain ⟨u0, u1, u2, u3, u4, u5, rfl, hrep⟩ := hby
  obtain ⟨A1, c1, A2, n3, c2, A3, n4, c3, rfl, rfl, rfl, rfl, rfl, rfl, hcells⟩ := list_shape hrep
  rw [List.length_map] at hcells
  have hw5 := hw4.trans (hb5.mono hw4.size)
  have HCE := Lib.hid hcells
  have hs5 := hb5.size
  replace HVB := Lib.hid (kept_below hb5 (show w3.heap.size < w4.heap.size by omega) HVB.out)
  replace HWB := Lib.hid (kept_below hb5 (show w3.heap.size + 1 < w4.heap.size by omega) HWB.out)
  rw [List.length_map]
  obtain ⟨nm, hnm⟩ : ∃ q, gs.length = q := ⟨_, rfl⟩
  rw [hnm] at HCE
  rw [hnm]
  have HNM := Lib.hid hnm
  have hnm4 : nm ≤ 400 := by omega
  clear p0 p1 p2 p3 p4 p5 q0 q1 q2 q3 q4 q5 hrep hcells hb5 C4 hw4 hnm hgl
  go_upto_region 8 with (fail)
  have hG := heap_alloc_new w5 (.cells #[.int .i64 5, .int .i64 0, .string ⟨#[]⟩, .slice A1 nm c1, .slice A2 n3 c2, .slice A3 n4 c3, .int .i64 0] 34)
  have hw6 := hw5.alloc hw5.size (.cells #[.int .i64 5, .int .i64 0, .string ⟨#[]⟩, .slice A1 nm c1, .slice A2 n3 c2, .slice A3 n4 c3, .int .i64 0] 34)
  have hs6 : (w5.alloc (.cells #[.int .i64 5, .int .i64 0, .string ⟨#[]⟩, .slice A1 nm c1, .slice A2 n3 c2, .slice A3 n4 c3, .int .i64 0] 34)).heap.size = w5.heap.size + 1 := by simp
  have hold6 : ∀ b, b < w5.heap.size → (w5.alloc (.cells #[.int .i64 5, .int .i64 0, .string ⟨#[]⟩, .slice A1 nm c1, .slice A2 n3 c2, .slice A3 n4 c3, .int .i64 0] 34)).heap[b]? = w5.heap[b]? := fun b hb => heap_alloc_old w5 _ hb
  generalize (w5.alloc (.cells #[.int .i64 5, .int .i64 0, .string ⟨#[]⟩, .slice A1 nm c1, .slice A2 n3 c2, .slice A3 n4 c3, .int .i64 0] 34)) = w6 at *
  replace HVB := Lib.hid ((hold6 _ (by omega)).trans HVB.out)
  replace HWB := Lib.hid ((hold6 _ (by omega)).trans HWB.out)
  have HC6 := Lib.hid (show nm = 0 ∨ ∃ b o, A1 = some ⟨b, o, none⟩ ∧ JCellsS w6 (fun b => b < w6.heap.size) (gs.map listT) b o from HCE.out.imp id (fun ⟨b, o, e, hJ⟩ => ⟨b, o, e, JCellsS.mono (fun b hb => hold6 b hb.2) (fun b hb => by omega) _ b o hJ⟩))
  have HG7 := Lib.hid hG
  obtain ⟨x0, x1, x2, x3, x4, x5, x6⟩ := box7 hG
  have HS6 := Lib.hid hs6
  have hs6' : w5.heap.size < w6.heap.size := by omega
  clear hold6 hG HCE hs6
  go_wp2_with fail
  clear x0 x1 x2 x3 x4 x5 x6
  go_loopw [8, 9, 35] (fun v8 v9 v35 wr => ∃ (j : Nat) (xa xf : List Value), v35 = .int .i64 j ∧ j ≤ nm ∧ wr.ownsRow w6.heap.size 26 6 v8 ((gs.take j).flatten).length xa ∧ JFlat wr (fun b => b < w6.heap.size) ((gs.take j).flatten) xa ∧ wr.ownsRow w6.heap.size 26 6 v9 j xf ∧ JFlat wr (fun b => b < w6.heap.size) ((gs.take j).map (·.headD nullT)) xf ∧ (∀ g, v8.ownBlock = some g → v9.ownBlock ≠ some g) ∧ (∀ k, k < w6.heap.size → wr.heap[k]? = w6.heap[k]?) ∧ Below w6.heap.size w6 wr) (fun _ _ vi _ => nm - (intOf vi).toNat)
  case atStart => exact ⟨0, [], [], rfl, Nat.zero_le _, World.ownsRow_nil _ _ _ _, by simp [JFlat], World.ownsRow_nil _ _ _ _, by simp [JFlat], by simp [Value.ownBlock], fun _ _ => rfl, Below.refl _ _⟩
  case round =>
    obtain ⟨j, xa, xf, rfl, hj, hownA, hflA, hownF, hflF, hne, hkeep, hbr⟩ := hrel
    obtain ⟨wo, rfl⟩ : ∃ wo, wo = wr := ⟨_, rfl⟩
    have hszr : w6.heap.size ≤ wo.heap.size := hbr.size
    by_cases hjn : j < nm
    · have hjg : j < gs.length := by rw [HNM.out]; exact hjn
      obtain ⟨ba, oa, rfl, hJC⟩ := HC6.out.resolve_left (by omega)
      obtain ⟨B1, d1, B2, r2, d2, B3, r3, d3, y0, y1, y2, y3, y4, y5, hsub⟩ := (JCellsS.mono (w' := wo) (S' := fun b => b < w6.heap.size) (fun b hb => hkeep b hb) (fun b hb => hb) _ ba oa hJC).lst j hjg
      have hq0 : 0 < gs[j].length := HPOS.out _ (List.getElem_mem hjg)
      obtain ⟨be, oe, rfl, hJE⟩ := hsub.resolve_left (by omega)
      have hel := elem_len gs j hjg
      have htk : gs.take (j + 1) = gs.take j ++ [gs[j]] := List.take_succ_eq_append_getElem hjg
      have HTA := Lib.hid (show (gs.take (j + 1)).flatten = (gs.take j).flatten ++ gs[j] by rw [htk, List.flatten_append]; simp)
      have HTF := Lib.hid (show (gs.take (j + 1)).map (·.headD nullT) = (gs.take j).map (·.headD nullT) ++ [gs[j].headD nullT] by rw [htk, List.map_append]; rfl)
      obtain ⟨ns, hfn, hnc⟩ := hJE.flat
      obtain ⟨hbe, k1, hh1, t1, E1, i1, j1, E2, i2, j2, E3, i3, j3, hrep1, z0, z1, z2, z3, z4, z5⟩ := hJE.six 0 hq0
      have HHD := Lib.hid (show gs[j].headD nullT = gs[j][0] from headD_eq _ hq0)
      generalize gs[j][0] = y at *
      generalize gs[j] = G at *
      obtain ⟨q, hq⟩ : ∃ q, G.length = q := ⟨_, rfl⟩
      obtain ⟨na, hna⟩ : ∃ q, ((gs.take j).flatten).length = q := ⟨_, rfl⟩
      have HNL := Lib.hid (show ns.length = q * 6 by rw [hfn.length, hq])
      rw [hq] at y3 hq0 hel
      rw [hna] at hownA hel
      have HQ := Lib.hid hq
      have HNA := Lib.hid hna
      have hna4 : na + q ≤ 400 := by omega
      simp only [Nat.zero_mul, Nat.add_zero] at z0 z1 z2 z3 z4 z5
      obtain ⟨AA, ca, rfl⟩ := slice_of_own hownA
      obtain ⟨AF, cf, rfl⟩ := slice_of_own hownF
      have hqb : ((q : Int) == 0) = false := by simp; omega
      obtain ⟨iT, hiT, hzT, hsT, hyT⟩ : ∃ i, Tryz.prog.info? 26 = some i ∧ i.zero = some (.agg #[.int .i64 0, .int .i64 0, .string ⟨#[]⟩, .slice none 0 0, .slice none 0 0, .slice none 0 0]) ∧ i.size = 6 ∧ i.bytes = 104 := ⟨Tryz.t26, by kernel_rfl, by kernel_rfl, by kernel_rfl, by kernel_rfl⟩
      have HOA := Lib.hid hownA
      have HOF := Lib.hid hownF
      have HFA := Lib.hid hflA
      have HFF := Lib.hid hflF
      have HNE := Lib.hid hne
      have HKE := Lib.hid hkeep
      have HJ := Lib.hid (show JFlat wo (fun b => b < w6.heap.size) G ns ∧ JRepS wo (fun b => b < w6.heap.size) y [.int .i64 k1, .int .i64 hh1, .string t1, .slice E1 i1 j1, .slice E2 i2 j2, .slice E3 i3 j3] from ⟨hfn, hrep1⟩)
      have HNC := Lib.hid (show ∀ (W : World), W.heap[be]? = wo.heap[be]? → ∀ i u, ns[i]? = some u → W.cell? ((⟨be, oe, none⟩ : Addr).add i) = some u from fun W hW i u hi => by
        rw [addr_add]
        exact (cell_kept hW).trans (hnc i u hi))
      have HZC := Lib.hid (show ∀ (W : World), W.heap[be]? = wo.heap[be]? → W.cell? ⟨be, oe, none⟩ = some (.int .i64 k1) ∧ W.cell? ⟨be, oe + 1, none⟩ = some (.int .i64 hh1) ∧ W.cell? ⟨be, oe + 2, none⟩ = some (.string t1) ∧ W.cell? ⟨be, oe + 3, none⟩ = some (.slice E1 i1 j1) ∧ W.cell? ⟨be, oe + 4, none⟩ = some (.slice E2 i2 j2) ∧ W.cell? ⟨be, oe + 5, none⟩ = some (.slice E3 i3 j3) from fun W hW => ⟨(cell_kept hW).trans z0, (cell_kept hW).trans z1, (cell_kept hW).trans z2, (cell_kept hW).trans z3, (cell_kept hW).trans z4, (cell_kept hW).trans z5⟩)
      have HN1 := Lib.hid (show ∀ u ∈ ns, u.oneCell' = true from hfn.one)
      have HBR := Lib.hid hbr
      clear hq hna hownA hownF hflA hflF hne hkeep hfn hnc hrep1 z0 z1 z2 z3 z4 z5 hJE hJC htk hbr
      go_upto_region 11 with (fail)
      have hE := heap_alloc_new wo (.cells #[.int .i64 5, .int .i64 0, .string ⟨#[]⟩, .slice (some ⟨be, oe, none⟩) q d1, .slice B2 r2 d2, .slice B3 r3 d3] 26)
      have holdz : ∀ b, b < wo.heap.size → (wo.alloc (.cells #[.int .i64 5, .int .i64 0, .string ⟨#[]⟩, .slice (some ⟨be, oe, none⟩) q d1, .slice B2 r2 d2, .slice B3 r3 d3] 26)).heap[b]? = wo.heap[b]? := fun b hb => heap_alloc_old wo _ hb
      have hszz : (wo.alloc (.cells #[.int .i64 5, .int .i64 0, .string ⟨#[]⟩, .slice (some ⟨be, oe, none⟩) q d1, .slice B2 r2 d2, .slice B3 r3 d3] 26)).heap.size = wo.heap.size + 1 := by simp
      have hbz := (Below.refl wo.heap.size wo).alloc (Nat.le_refl _) (.cells #[.int .i64 5, .int .i64 0, .string ⟨#[]⟩, .slice (some ⟨be, oe, none⟩) q d1, .slice B2 r2 d2, .slice B3 r3 d3] 26)
      generalize (wo.alloc (.cells #[.int .i64 5, .int .i64 0, .string ⟨#[]⟩, .slice (some ⟨be, oe, none⟩) q d1, .slice B2 r2 d2, .slice B3 r3 d3] 26)) = wz at *
      have HLD := Lib.hid holdz
      have HSZ := Lib.hid hszz
      have HALT := Lib.hid (show ∀ b, Value.ownBlock (.slice AA na ca) = some b → b < wo.heap.size from fun b e => (HOA.out.lt b e).2)
      have hszz' : wo.heap.size < wz.heap.size := by omega
      have HBZ := Lib.hid hbz
      have HOAz := Lib.hid (ownsRow_keep HOA.out (fun k hk => holdz k (HOA.out.lt k hk).2))
      have HNCz := Lib.hid (HNC.out wz (holdz be (by omega)))
      have HE := Lib.hid hE
      obtain ⟨e0, e1, e2, e3, e4, e5⟩ := box6 hE
      clear y0 y1 y2 y3 y4 y5 holdz hszz hbz hE HOA HNC
      have D1 := Lib.hid (show na + q ≤ maxLen by unfold maxLen; omega)
      have D2 := Lib.hid (show (na + q) * 104 ≤ 140737488355328 by omega)
      have D3 := Lib.hid (show w6.heap.size ≤ wz.heap.size by omega)
      go_upto_region 14 with (first | (at_builtin; refine wpList_append_own_at _ rfl _ _ 23 rfl w6.heap.size 26 iT _ 6 104 Tryz.underlying23 hiT hzT hsT hyT rfl (by decide) _ _ _ rfl HOAz.out ⟨be, oe, none⟩ q d1 ns rfl HNL.out HNCz.out HN1.out D1.out D2.out D3.out ?_; intro v2 w7 g2 g3 _ g5; obtain ⟨AA2, ca2, rfl⟩ := slice_of_own g2))
      have hA0 := HOAz.out.lt
      have hF0 := HOF.out.lt
      have hg3s := g3.size
      have hold7 : ∀ b, b < wo.heap.size → Value.ownBlock (.slice AA na ca) ≠ some b → w7.heap[b]? = wo.heap[b]? := fun b h1 h2 => (g3.block b (by omega) (fun e => h2 e.symm)).trans (HLD.out b h1)
      have hAne : ∀ b, b < w6.heap.size → Value.ownBlock (.slice AA na ca) ≠ some b := fun b h1 e => by have := (hA0 b e).1; omega
      have hAlt : ∀ b, Value.ownBlock (.slice AA na ca) = some b → b < wo.heap.size := fun b e => (HALT.out b e)
      have hE7 : w7.heap[wo.heap.size]? = some (.cells #[.int .i64 5, .int .i64 0, .string ⟨#[]⟩, .slice (some ⟨be, oe, none⟩) q d1, .slice B2 r2 d2, .slice B3 r3 d3] 26 (0, 0)) := (g3.block _ (by omega) (fun e => by have := hAlt _ e.symm; omega)).trans HE.out
      have hbe7 := hold7 be (by omega) (hAne be hbe)
      obtain ⟨z0, z1, z2, z3, z4, z5⟩ := HZC.out w7 hbe7
      obtain ⟨f0, f1, f2, f3, f4, f5⟩ := box6 hE7
      have hnewS := heap_alloc_new w7 (.cells #[.int .i64 k1, .int .i64 hh1, .string t1, .slice E1 i1 j1, .slice E2 i2 j2, .slice E3 i3 j3] 26)
      have HOF7 := Lib.hid ((ownsRow_keep HOF.out (fun b hb => hold7 b (hF0 b hb).2 (fun e => HNE.out b e hb))).alloc (.cells #[.int .i64 k1, .int .i64 hh1, .string t1, .slice E1 i1 j1, .slice E2 i2 j2, .slice E3 i3 j3] 26))
      have HG2 := Lib.hid g2
      have HG5 := Lib.hid g5
      have HB7 := Lib.hid (show Below w6.heap.size w6 w7 from HBR.out.trans ((HBZ.out.mono (by omega)).trans (below_of_grown_opt g3 (fun b hb => (hA0 b hb).1) (by omega))))
      have HO7 := Lib.hid hold7
      have HAN := Lib.hid hAne
      have HC1 := Lib.hid (six_cells hnewS)
      have HC2 := Lib.hid (six_one k1 hh1 t1 E1 E2 E3 i1 j1 i2 j2 i3 j3)
      have H3 := Lib.hid (show j + 1 ≤ maxLen by unfold maxLen; omega)
      have H4 := Lib.hid (show (j + 1) * 104 ≤ 140737488355328 by omega)
      have H5 := Lib.hid (show w6.heap.size ≤ (w7.alloc (.cells #[.int .i64 k1, .int .i64 hh1, .string t1, .slice E1 i1 j1, .slice E2 i2 j2, .slice E3 i3 j3] 26)).heap.size by simp; omega)
      clear g2 g3 g5 e0 e1 e2 e3 e4 e5 hold7 hAne hE7 hnewS hbe7 HE HLD HOAz HNCz hA0 hF0
      go_wp2_with (first | (at_builtin; refine wpList_append_own_at _ rfl _ _ 23 rfl w6.heap.size 26 iT _ 6 104 Tryz.underlying23 hiT hzT hsT hyT rfl (by decide) _ _ _ rfl HOF7.out ⟨w7.heap.size, 0, none⟩ 1 1 [.int .i64 k1, .int .i64 hh1, .string t1, .slice E1 i1 j1, .slice E2 i2 j2, .slice E3 i3 j3] rfl rfl HC1.out HC2.out H3.out H4.out H5.out ?_; intro v3 w8 k2 k3 _ k5; obtain ⟨AF2, cf2, rfl⟩ := slice_of_own k2))
      have hF0 := HOF.out.lt
      have hold8 : ∀ b, b < w7.heap.size → Value.ownBlock (.slice AF j cf) ≠ some b → w8.heap[b]? = w7.heap[b]? := fun b h1 h2 => (k3.block b (by simp; omega) (fun e => h2 e.symm)).trans (heap_alloc_old w7 _ h1)
      have hFne : ∀ b, b < w6.heap.size → Value.ownBlock (.slice AF j cf) ≠ some b := fun b h1 e => by have := (hF0 b e).1; omega
      have hs7 : w6.heap.size ≤ w7.heap.size := HB7.out.size
      have hkp : ∀ b, b < w6.heap.size → w8.heap[b]? = wo.heap[b]? := fun b hb => (hold8 b (by omega) (hFne b hb)).trans (HO7.out b (by omega) (HAN.out b hb))
      have hA2lt := HG2.out.lt
      have hA2F : ∀ b, Value.ownBlock (.slice AA2 (na + q) ca2) = some b → Value.ownBlock (.slice AF j cf) ≠ some b := fun b hb e => by
        rcases HG5.out with h | h
        · exact HNE.out b (h ▸ hb) e
        · rw [h] at hb
          have h3 : wz.heap.size = b := by simpa using hb
          have := (hF0 b e).2
          omega
      refine ⟨⟨j + 1, xa ++ ns, xf ++ [.int .i64 k1, .int .i64 hh1, .string t1, .slice E1 i1 j1, .slice E2 i2 j2, .slice E3 i3 j3], by go_num, by omega, ?_, ?_, k2, ?_, ?_, fun b hb => (hkp b hb).trans (HKE.out b hb), ?_⟩, by simp [intOf]; omega⟩
      · rw [HTA.out, List.length_append, HNA.out, HQ.out]
        exact ownsRow_keep HG2.out (fun b hb => hold8 b (hA2lt b hb).2 (hA2F b hb))
      · rw [HTA.out]
        exact JFlat.append (JFlat.mono hkp (fun _ h => h) HJ.out.1) (JFlat.mono hkp (fun _ h => h) HFA.out)
      · rw [HTF.out, HHD.out]
        exact JFlat.snoc (JRepS.mono hkp (fun _ h => h) y _ HJ.out.2) (JFlat.mono hkp (fun _ h => h) HFF.out)
      · intro b hb e
        rcases k5 with h | h
        · exact hA2F b hb (h ▸ e)
        · rw [h] at e
          have h3 : (w7.alloc (.cells #[.int .i64 k1, .int .i64 hh1, .string t1, .slice E1 i1 j1, .slice E2 i2 j2, .slice E3 i3 j3] 26)).heap.size = b := by simpa using e
          have := (hA2lt b hb).2
          simp at h3
          omega
      · exact (HB7.out.alloc hs7 (.cells #[.int .i64 k1, .int .i64 hh1, .string t1, .slice E1 i1 j1, .slice E2 i2 j2, .slice E3 i3 j3] 26)).trans (below_of_grown_opt k3 (fun b hb => (hF0 b hb).1) (by simp; omega))
    · have ej : j = nm := by omega
      subst ej
      rw [List.take_of_length_le (by rw [HNM.out]; exact Nat.le_refl _)] at hownA hflA hflF
      obtain ⟨AA, ca, rfl⟩ := slice_of_own hownA
      obtain ⟨AF, cf, rfl⟩ := slice_of_own hownF
      have SA := Lib.hid (flat_own (l := gs.flatten) hownA hflA rfl (by omega) (fun b hb => by omega))
      have SF := Lib.hid (flat_own (l := gs.map (·.headD nullT)) hownF hflF (by rw [List.length_map, HNM.out]) (by omega) (fun b hb => by omega))
      have hwo : Below w.heap.size w wo := hw6.trans (hbr.mono hw6.size)
      have hV := (hkeep _ (show w3.heap.size < w6.heap.size by omega)).trans HVB.out
      have hW := (hkeep _ (show w3.heap.size + 1 < w6.heap.size by omega)).trans HWB.out
      have hG := (hkeep _ hs6').trans HG7.out
      have hlo : w3.heap.size + 1 < wo.heap.size := by omega
      obtain ⟨x0, x1, x2, x3, x4, x5, x6⟩ := box7 hG
      obtain ⟨p0, p1, p2, p3, p4, p5⟩ := box6 hV
      obtain ⟨q0, q1, q2, q3, q4, q5⟩ := box6 hW
      obtain ⟨nf, hnf⟩ : ∃ q, gs.flatten.length = q := ⟨_, rfl⟩
      rw [hnf] at SA
      rw [hnf]
      have HNF := Lib.hid hnf
      have C16 := Lib.hid (SortBy_walk l k _ HSD.out HOK.out.gl HOK.out.gk _ _ wo (HVL.out wo hwo) (HVK.out wo hwo))
      clear hownA hflA hownF hflF hne hkeep hnf hG HSD
      have HV := Lib.hid hV
      have HW := Lib.hid hW
      clear hV hW
      go_wp2_with fail
      refine C16.out.mono ?_
      rintro e wa ⟨hby, hba⟩
      obtain ⟨u0, u1, u2, u3, u4, u5, rfl, hrepA⟩ := hby
      have HRA := Lib.hid hrepA
      have hwa := hwo.trans (hba.mono hwo.size)
      have hsa := hba.size
      have HBA := Lib.hid hba
      clear hrepA hba C16 p0 p1 p2 p3 p4 p5 q0 q1 q2 q3 q4 q5 x0 x1 x2 x3 x4 x5 x6
      go_wp2_with fail
      refine (Array_walk AA nf ca wa).mono ?_
      rintro e wb ⟨rfl, hbb⟩
      have hsb := hbb.size
      have hwb := hwa.trans (hbb.mono hwa.size)
      have C15 := Lib.hid (given_same (listT gs.flatten) HSG.out _ _ _ _ _ _ _ _ _ _ _ _ wb ((JRepS.toRep (B := wa.heap.size) (fun b hb => hb.2) _ _ HRA.out).below hbb hbb.size) (cells_list ((SA.out.imp (JCells.below HBA.out HBA.out.size _)).imp (JCells.below hbb hbb.size _)) HNF.out.symm))
      have HBB := Lib.hid (HBA.out.trans (hbb.mono hsa))
      clear hbb HRA HBA SA HSG
      go_wp2_with fail
      refine C15.out.mono ?_
      rintro e wc ⟨rfl, hbc⟩
      have hsc := hbc.size
      have hwc := hwb.trans (hbc.mono hwb.size)
      have hoc : Below wo.heap.size wo wc := HBB.out.trans (hbc.mono (by omega))
      obtain ⟨p0, p1, p2, p3, p4, p5⟩ := box6 (kept_below hoc (by omega) HV.out)
      obtain ⟨q0, q1, q2, q3, q4, q5⟩ := box6 (kept_below hoc (by omega) HW.out)
      have C17 := Lib.hid (UniqueBy_walk l k _ HUD.out HOK.out.gl HOK.out.gk _ _ wc (HVL.out wc hwc) (HVK.out wc hwc))
      have HOC := Lib.hid hoc
      clear hbc hoc C15 HBB HUD HOK HVL HVK HV HW
      go_wp2_with fail
      refine C17.out.mono ?_
      rintro e wd ⟨hby, hbd⟩
      obtain ⟨u0, u1, u2, u3, u4, u5, rfl, hrepA⟩ := hby
      have HRA := Lib.hid hrepA
      have hwd := hwc.trans (hbd.mono hwc.size)
      have HBD := Lib.hid hbd
      have hsd := hbd.size
      clear hrepA hbd C17 p0 p1 p2 p3 p4 p5 q0 q1 q2 q3 q4 q5
      go_wp2_with fail
      refine (Array_walk AF j cf wd).mono ?_
      rintro e we ⟨rfl, hbe⟩
      have hwe := hwd.trans (hbe.mono hwd.size)
      have C15 := Lib.hid (given_same (listT (gs.map (·.headD nullT))) HUG.out _ _ _ _ _ _ _ _ _ _ _ _ we ((JRepS.toRep (B := wd.heap.size) (fun b hb => hb.2) _ _ HRA.out).below hbe hbe.size) (cells_list ((SF.out.imp (JCells.below HOC.out HOC.out.size _)).imp (fun b o h => JCells.below hbe hbe.size _ b o (JCells.below HBD.out HBD.out.size _ b o h))) rfl))
      clear hbe HRA HBD SF HUG HOC
      go_wp2_with fail
      refine C15.out.mono ?_
      rintro e wf ⟨rfl, hbf⟩
      have hwf := hwe.trans (hbf.mono hwe.size)
      go_wp2_with fail
      go_ret
      exact ⟨rfl, hwf⟩
end Go.Proofs.YtmjegeipnaalnaaGreatDoor

/- FnGroups: its walk, whatever its arguments are: it returns true, and nothing below its heap is changed. -/
namespace Go.Proofs.YtmjegeipnaalnaaGreatDoor
open Go.RowKit

theorem sort_in (l k : List JV) : InB l.length (sortT l k) := by
  have h := places_Q l.length (itemLt (ofL k)) (idArr l.length) (by simp [idArr]) (fun x hx => by simpa [idArr] using hx)
  unfold sortT sortA
  exact ⟨by rw [Array.length_toList]; exact h.1, h.2⟩

set_option maxRecDepth 100000 in
set_option maxHeartbeats 4000000 in
theorem Groups_walk (l k : List JV) (P1 P2 : Option Addr) (n1 n2 m1 m2 : Nat) (w : World) (hl : SlOf l.length 104 (JCells w w.heap.size l) (.slice P1 n1 m1)) (hk : SlOf k.length 104 (JCells w w.heap.size k) (.slice P2 n2 m2)) (hT : Tabs w) :
    Calls Tryz.prog 4 #[.slice P1 n1 m1, .slice P2 n2 m2] w fun e w' => e = .returned (.bool true) ∧ Below w.heap.size w w' := by
  cases hp : pairsB l k with
  | true => exact Groups_yes l k P1 P2 n1 n2 m1 m2 w hl hk hT (ok_of_pairs hp).1 (ok_of_pairs hp).2 hp (sort_in l k)
  | false =>
    have c := pairs_walk l k P1 P2 n1 m1 n2 m2 w hl hk hT
    rw [hp] at c
    have C := Lib.hid c
    clear c hl hk hT hp
    by_cases h1 : (2147483647 : Int) < n1
    · have hd1 : decide ((2147483647 : Int) < n1) = true := by simpa using h1
      go_enter Tryz.func4, Tryz.ntmps4
      go_wp2_with fail
      go_ret
      exact ⟨rfl, Below.refl _ _⟩
    · have hd1 : decide ((2147483647 : Int) < n1) = false := by simpa using h1
      by_cases h2 : (2147483647 : Int) < n2
      · have hd2 : decide ((2147483647 : Int) < n2) = true := by simpa using h2
        go_enter Tryz.func4, Tryz.ntmps4
        go_wp2_with fail
        go_ret
        exact ⟨rfl, Below.refl _ _⟩
      · have hd2 : decide ((2147483647 : Int) < n2) = false := by simpa using h2
        go_enter Tryz.func4, Tryz.ntmps4
        go_wp2_with fail
        refine C.out.mono ?_
        rintro e w1 ⟨rfl, hb⟩
        go_wp2_with fail
        go_ret
        exact ⟨rfl, hb⟩
end Go.Proofs.YtmjegeipnaalnaaGreatDoor
