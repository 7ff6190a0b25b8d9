/- group_by: the values of neighbours with equal keys, group for group: the walk. -/
import Derived.Test.YtmjegeipnaalnaaGreatDoorGrGrpT
import Derived.IntWalk
namespace Go.Proofs.YtmjegeipnaalnaaGreatDoor
open Go.RowKit Go.Sort

theorem new_two (w : World) (o p : Obj) : ((w.alloc o).alloc p).heap[w.heap.size + 1]? = some p := by
  have := heap_alloc_new (w.alloc o) p
  rwa [show (w.alloc o).heap.size = w.heap.size + 1 by simp] at this

set_option maxRecDepth 100000 in
set_option maxHeartbeats 8000000 in
theorem grpBy_walk (n bv bk : Nat) (Kt : List JV) (cv ck : List Value) (Tv Tk : TypeId) (w : World) (hlk : Kt.length = n) (hnv : cv.length = n) (hn : n ≤ 1000000) (hbv : bv < w.heap.size) (hbk : bk < w.heap.size)
    (hSV : ∀ j, j < n → AnyV (cv.getD j .nilIface)) (hcv : w.heap[bv]? = some (.cells (List.toArray cv) Tv (0, 0))) (hck : w.heap[bk]? = some (.cells (List.toArray ck) Tk (0, 0))) (hK : GVals w 0 w.heap.size Kt ck) (hG : GoodL Kt) (hS : ShortL Kt) :
    Calls Tryz.prog 85 #[.iface 80 (.slice (some ⟨bv, 0, none⟩) n n), .iface 80 (.slice (some ⟨bk, 0, none⟩) n n)] w fun e w' => ∃ g c b cc xs, e = .returned (.iface 80 (.slice (some ⟨g, 0, none⟩) (grpF (keyNe fun i => Kt.getD i nullT) (sortA (fun i => Kt.getD i nullT) n).toList).1.length c)) ∧
      w'.ownsRow w.heap.size 20 1 (.slice (some ⟨g, 0, none⟩) (grpF (keyNe fun i => Kt.getD i nullT) (sortA (fun i => Kt.getD i nullT) n).toList).1.length c) (grpF (keyNe fun i => Kt.getD i nullT) (sortA (fun i => Kt.getD i nullT) n).toList).1.length xs ∧ Grps w' w.heap.size g (fun i => cv.getD i .nilIface) (grpF (keyNe fun i => Kt.getD i nullT) (sortA (fun i => Kt.getD i nullT) n).toList).1 b cc xs ∧ InB n (sortA (fun i => Kt.getD i nullT) n).toList ∧ Below w.heap.size w w' := by
  have C := Lib.hid (items_walk ⟨#[103, 114, 111, 117, 112, 95, 98, 121]⟩ n bv bk Kt cv ck Tv Tk w hlk hnv hn hbv hbk hSV hcv hck hK hG hS)
  have HGS := Lib.hid (show ∀ i, i < n → Good (Kt.getD i nullT) ∧ Short (Kt.getD i nullT) from fun i hi => by
    have h1 : i < Kt.length := by omega
    rw [List.getD_eq_getElem?_getD, List.getElem?_eq_getElem h1]
    exact ⟨hG.get _ (List.getElem_mem h1), hS.get _ (List.getElem_mem h1)⟩)
  clear hnv hcv hck hK hlk
  generalize sortA (fun i => Kt.getD i nullT) n = S at *
  go_enter Tryz.func85, Tryz.ntmps85
  go_wp2_with fail
  refine C.out.mono ?_
  rintro e w1 ⟨blk, bx, pb, rfl, hge, hR, hb1⟩
  have HR := Lib.hid hR
  have hlow := hR.low
  have hN := heap_alloc_new w1 (.cells #[] 20)
  have hB := hb1.alloc hb1.size (.cells #[] 20)
  have hold : ∀ k, k < w1.heap.size → (w1.alloc (.cells #[] 20)).heap[k]? = w1.heap[k]? := fun k hk => heap_alloc_old w1 _ hk
  have hs1 := hb1.size
  have ORD := Lib.hid (fun (W : World) (hW : ∀ k, k < w1.heap.size → W.heap[k]? = w1.heap[k]?) (hsz : w1.heap.size ≤ W.heap.size) (i j : Nat) (hi : i < n) (hj : j < n) => ord_all (Kt.getD j nullT) (Kt.getD i nullT) (ck.getD i .nilIface) (ck.getD j .nilIface) W
    (GRep.mono (fun k _ hk => hW k (by omega)) (Nat.le_refl _) (by omega) _ _ (HR.out.key i hi)) (GRep.mono (fun k _ hk => hW k (by omega)) (Nat.le_refl _) (by omega) _ _ (HR.out.key j hj)) (HGS.out i hi).1 (HGS.out j hj).1 (HGS.out i hi).2 (HGS.out j hj).2)
  clear hR C HGS
  go_wp2_with fail
  have hsz : w1.heap.size + 1 ≤ (w1.alloc (.cells #[] 20)).heap.size := by simp
  generalize w1.alloc (.cells #[] 20) = w2 at *
  go_loopw [7, 8, 23] (fun v7 v8 v23 wr => ∃ (j : Nat) (G : List (List Nat)) (l g c : Nat) (b cc : Nat → Nat) (xs : List Value), v23 = .int .i64 j ∧ j ≤ n ∧ grpF (keyNe fun i => Kt.getD i nullT) (S.toList.take j) = (G, l) ∧ v7 = .slice (some ⟨g, 0, none⟩) G.length c ∧ wr.ownsRow w1.heap.size 20 1 (.slice (some ⟨g, 0, none⟩) G.length c) G.length xs ∧ Grps wr w1.heap.size g (fun i => cv.getD i .nilIface) G b cc xs ∧ ((j = 0 ∧ G = [] ∧ v8 = .nilIface) ∨ (0 < j ∧ G ≠ [] ∧ l < n ∧ v8 = ck.getD l .nilIface)) ∧ G.length ≤ j ∧ (∀ k, k < w1.heap.size → wr.heap[k]? = w1.heap[k]?) ∧ Below w.heap.size w wr) (fun _ _ vi _ => n - (intOf vi).toNat)
  case atStart =>
    exact ⟨0, [], 0, w1.heap.size, 0, fun _ => 0, fun _ => 0, [], rfl, Nat.zero_le _, by simp [grpF], rfl, ⟨by simp, .inr ⟨_, 0, #[], rfl, Nat.le_refl _, hN, Nat.le_refl _, by simp [maxLen], by simp, by simp⟩⟩, Grps.nil, .inl ⟨rfl, rfl, rfl⟩, Nat.le_refl _, hold, hB⟩
  case round =>
    obtain ⟨j, G, l, g, c, b, cc, xs, rfl, hj, hu, rfl, hown, hgr, hst, hul, hkeep, hbr⟩ := hrel
    obtain ⟨wo, rfl⟩ : ∃ wo, wo = wr := ⟨_, rfl⟩
    have hwo : w1.heap.size ≤ wo.heap.size := by have := hown.lt g rfl; omega
    by_cases hjn : j < n
    · have hc1 : wo.cell? ⟨blk, j, none⟩ = some (.pointer (some ⟨pb S[j]!, 0, none⟩)) := by
        have := (HR.out.holds j (by rw [HR.out.size]; exact hjn)).1
        rw [Nat.zero_add] at this
        simp only [World.cell?, hkeep blk hlow] at this ⊢
        exact this
      have hx := HR.out.lt j hjn
      have hit := HR.out.item _ hx
      have hlpx := heap_lt hit
      obtain ⟨hc2, hc3⟩ := box2' ((hkeep _ hlpx).trans hit)
      have hTK := take_at HR.out.size hjn
      have hav := hSV _ hx
      obtain ⟨iT, hiT, hzT, hsT, hyT⟩ : ∃ i, Tryz.prog.info? 20 = some i ∧ i.zero = some .nilIface ∧ i.size = 1 ∧ i.bytes = 16 := ⟨Tryz.t20, by kernel_rfl, by kernel_rfl, by kernel_rfl, by kernel_rfl⟩
      clear hit
      rcases hst with ⟨hj0, hu0, rfl⟩ | ⟨hj0, hune, hln, rfl⟩
      · have hjb : ((j : Int) == 0) = true := by simp; omega
        have HU0 := Lib.hid hu0
        clear hj0 hu0
        have hu2 : grpF (keyNe fun i => Kt.getD i nullT) (S.toList.take (j + 1)) = (G ++ [[S[j]!]], S[j]!) := by rw [hTK, grpF_snoc, hu]; unfold grpPush; rw [if_pos (.inl HU0.out)]
        have HU2 := Lib.hid hu2
        clear hu2 hTK hu
        generalize S[j]! = x at *
        obtain ⟨vx, hvx⟩ : ∃ v, cv.getD x .nilIface = v := ⟨_, rfl⟩
        obtain ⟨kx, hkx⟩ : ∃ v, ck.getD x .nilIface = v := ⟨_, rfl⟩
        rw [hvx] at hc2 hav
        rw [hkx] at hc3
        have HVX := Lib.hid hvx
        have HKX := Lib.hid hkx
        clear hvx hkx
        generalize pb x = px at *
        have hpx : px < w1.heap.size := hlpx
        have HOW := Lib.hid hown
        have HGR := Lib.hid hgr
        have HB := Lib.hid hbr
        have HK := Lib.hid hkeep
        have hgg : w1.heap.size ≤ g ∧ g < wo.heap.size := HOW.out.lt g rfl
        clear hown hgr hbr hkeep
        have HS := Lib.hid (fun (W : World) (h : W.heap[px]? = wo.heap[px]?) => (⟨by simp only [World.cell?, h] at hc2 ⊢; exact hc2, by simp only [World.cell?, h] at hc3 ⊢; exact hc3⟩ : W.cell? ⟨px, 0, none⟩ = some vx ∧ W.cell? ⟨px, 1, none⟩ = some kx))
        clear hc2 hc3
        go_upto_region 10 with (fail)
        rcases hav with rfl | ⟨T1, u1, rfl⟩
        · go_region_held3 (fun w' => w'.cell? ⟨px, 0, none⟩ = some (.nilIface) ∧ w'.cell? ⟨px, 1, none⟩ = some kx)
            (first
              | exact HS.out _ rfl
              | exact HS.out _ (Below.heap_alloc _ _ _ (by omega))
              | exact HS.out _ ((Below.heap_alloc _ _ _ (by simp; omega)).trans (Below.heap_alloc _ _ _ (by omega)))
              | exact HS.out _ ((hgrow.block px (by simp; omega) (own_ne (by omega))).trans ((Below.heap_alloc _ _ _ (by simp; omega)).trans (Below.heap_alloc _ _ _ (by omega)))))
            ((refine step_append_lies _ (by rfl) _ _ _ (by rfl) w1.heap.size 20 iT _ 1 16 Tryz.underlying80 hiT hzT hsT hyT rfl (by omega) (.slice (some ⟨g, 0, none⟩) G.length c) G.length xs (by rfl) (((HOW.out.alloc _).alloc _).drew)
                ⟨wo.heap.size + 1, 0, none⟩ 1 1 [.iface 80 (.slice (some ⟨wo.heap.size, 0, none⟩) 1 1)] (by rfl) (by rfl) (World.news_of_block (cs := #[.iface 80 (.slice (some ⟨wo.heap.size, 0, none⟩) 1 1)]) (t := 20) (fr := (0, 0)) (new_two wo _ _)) (by simp [Value.oneCell'])
                (by omega) (by unfold maxLen; omega) (by omega) (by simp; omega) (wo.heap.size + 2) (by simp) ?_; intro g2 c2 w3 hown3 hgrow hat hlt))
          go_wp2_with fail
          have hat2 : g2 = g ∨ g2 = wo.heap.size + 2 := hat.imp (fun e => (own_eq e).symm) id
          have hold3 : ∀ k, k < wo.heap.size → k ≠ g → w3.heap[k]? = wo.heap[k]? := fun k h1 h2 => (hgrow.block k (by simp; omega) (own_ne h2)).trans ((Below.heap_alloc _ _ _ (by simp; omega)).trans (Below.heap_alloc _ _ _ h1))
          have hnew3 : w3.heap[wo.heap.size]? = some (.cells #[.nilIface] 20 (0, 0)) := (hgrow.block _ (by simp; omega) (own_ne (by omega))).trans ((Below.heap_alloc _ _ _ (by simp)).trans (heap_alloc_new wo _))
          refine ⟨⟨j + 1, G ++ [[x]], x, g2, c2, _, _, _, by go_num, by omega, HU2.out, by simp, by simpa using hown3, HGR.out.push (fun i hi => hold3 _ (HGR.out.lt i hi).2 (HGR.out.ne i hi)) (?_ : w3.ownsRow w1.heap.size 20 1 (.slice (some ⟨wo.heap.size, 0, none⟩) 1 1) 1 [cv.getD x .nilIface]) (by omega) (fun i hi => ?_), .inr ⟨by omega, by simp, hx, HKX.out.symm⟩, by simp; omega, fun k hk => (hold3 k (by omega) (by omega)).trans (HK.out k hk), ?_⟩, by simp [intOf]; omega⟩
          · rw [HVX.out]
            exact ⟨rfl, .inr ⟨wo.heap.size, 1, #[.nilIface], rfl, by omega, hnew3, Nat.le_refl _, by simp [maxLen], rfl, rfl⟩⟩
          · have h1 := (HGR.out.lt i hi).2
            have h2 := HGR.out.ne i hi
            omega
          · exact ((HB.out.alloc (by omega) _).alloc (by simp; omega) _).drew.trans (below_of_grown_opt hgrow (fun b hb => by have e : g = b := own_eq hb; omega) (by simp; omega))
        · go_region_held3 (fun w' => w'.cell? ⟨px, 0, none⟩ = some (.iface T1 u1) ∧ w'.cell? ⟨px, 1, none⟩ = some kx)
            (first
              | exact HS.out _ rfl
              | exact HS.out _ (Below.heap_alloc _ _ _ (by omega))
              | exact HS.out _ ((Below.heap_alloc _ _ _ (by simp; omega)).trans (Below.heap_alloc _ _ _ (by omega)))
              | exact HS.out _ ((hgrow.block px (by simp; omega) (own_ne (by omega))).trans ((Below.heap_alloc _ _ _ (by simp; omega)).trans (Below.heap_alloc _ _ _ (by omega)))))
            ((refine step_append_lies _ (by rfl) _ _ _ (by rfl) w1.heap.size 20 iT _ 1 16 Tryz.underlying80 hiT hzT hsT hyT rfl (by omega) (.slice (some ⟨g, 0, none⟩) G.length c) G.length xs (by rfl) (((HOW.out.alloc _).alloc _).drew)
                ⟨wo.heap.size + 1, 0, none⟩ 1 1 [.iface 80 (.slice (some ⟨wo.heap.size, 0, none⟩) 1 1)] (by rfl) (by rfl) (World.news_of_block (cs := #[.iface 80 (.slice (some ⟨wo.heap.size, 0, none⟩) 1 1)]) (t := 20) (fr := (0, 0)) (new_two wo _ _)) (by simp [Value.oneCell'])
                (by omega) (by unfold maxLen; omega) (by omega) (by simp; omega) (wo.heap.size + 2) (by simp) ?_; intro g2 c2 w3 hown3 hgrow hat hlt))
          go_wp2_with fail
          have hat2 : g2 = g ∨ g2 = wo.heap.size + 2 := hat.imp (fun e => (own_eq e).symm) id
          have hold3 : ∀ k, k < wo.heap.size → k ≠ g → w3.heap[k]? = wo.heap[k]? := fun k h1 h2 => (hgrow.block k (by simp; omega) (own_ne h2)).trans ((Below.heap_alloc _ _ _ (by simp; omega)).trans (Below.heap_alloc _ _ _ h1))
          have hnew3 : w3.heap[wo.heap.size]? = some (.cells #[.iface T1 u1] 20 (0, 0)) := (hgrow.block _ (by simp; omega) (own_ne (by omega))).trans ((Below.heap_alloc _ _ _ (by simp)).trans (heap_alloc_new wo _))
          refine ⟨⟨j + 1, G ++ [[x]], x, g2, c2, _, _, _, by go_num, by omega, HU2.out, by simp, by simpa using hown3, HGR.out.push (fun i hi => hold3 _ (HGR.out.lt i hi).2 (HGR.out.ne i hi)) (?_ : w3.ownsRow w1.heap.size 20 1 (.slice (some ⟨wo.heap.size, 0, none⟩) 1 1) 1 [cv.getD x .nilIface]) (by omega) (fun i hi => ?_), .inr ⟨by omega, by simp, hx, HKX.out.symm⟩, by simp; omega, fun k hk => (hold3 k (by omega) (by omega)).trans (HK.out k hk), ?_⟩, by simp [intOf]; omega⟩
          · rw [HVX.out]
            exact ⟨rfl, .inr ⟨wo.heap.size, 1, #[.iface T1 u1], rfl, by omega, hnew3, Nat.le_refl _, by simp [maxLen], rfl, rfl⟩⟩
          · have h1 := (HGR.out.lt i hi).2
            have h2 := HGR.out.ne i hi
            omega
          · exact ((HB.out.alloc (by omega) _).alloc (by simp; omega) _).drew.trans (below_of_grown_opt hgrow (fun b hb => by have e : g = b := own_eq hb; omega) (by simp; omega))
      · have hjb : ((j : Int) == 0) = false := by simp; omega
        have ci := ORD.out wo hkeep hwo l S[j]! hln hx
        have hne : keyNe (fun i => Kt.getD i nullT) l S[j]! = (ordT (Kt.getD l nullT) (Kt.getD S[j]! nullT) != 0) := rfl
        generalize ordT (Kt.getD l nullT) (Kt.getD S[j]! nullT) = q at *
        have HUN := Lib.hid hune
        clear hune
        by_cases hq : q = 0
        · subst hq
          have hu3 : grpF (keyNe fun i => Kt.getD i nullT) (S.toList.take (j + 1)) = (G.dropLast ++ [G.getLastD [] ++ [S[j]!]], l) := by rw [hTK, grpF_snoc, hu]; unfold grpPush; rw [if_neg (by rw [hne]; simp; exact HUN.out)]
          have HSM := Lib.hid (show ∀ q ∈ G, q.length ≤ j from fun q hq => by have h1 := grp_small (keyNe fun i => Kt.getD i nullT) (S.toList.take j) q (by rw [hu]; exact hq); have h2 : (S.toList.take j).length ≤ j := List.length_take_le _ _; omega)
          have HU3 := Lib.hid hu3
          clear hu3 hTK hu hne
          generalize S[j]! = x at *
          obtain ⟨vx, hvx⟩ : ∃ v, cv.getD x .nilIface = v := ⟨_, rfl⟩
          obtain ⟨kx, hkx⟩ : ∃ v, ck.getD x .nilIface = v := ⟨_, rfl⟩
          rw [hvx] at hc2 hav
          rw [hkx] at hc3
          obtain ⟨kl, hkl⟩ : ∃ v, ck.getD l .nilIface = v := ⟨_, rfl⟩
          rw [hkx, hkl] at ci
          rw [hkl]
          have HKL := Lib.hid hkl
          have CI := Lib.hid ci
          clear hkl ci
          have HVX := Lib.hid hvx
          have HKX := Lib.hid hkx
          clear hvx hkx
          generalize pb x = px at *
          have hpx : px < w1.heap.size := hlpx
          have HOW := Lib.hid hown
          have HGR := Lib.hid hgr
          have HB := Lib.hid hbr
          have HK := Lib.hid hkeep
          have hgg : w1.heap.size ≤ g ∧ g < wo.heap.size := HOW.out.lt g rfl
          clear hown hgr hbr hkeep
          go_wp2_with fail
          refine CI.out.mono ?_
          rintro e wc ⟨rfl, hbc⟩
          have hown := ownsRow_keep HOW.out (fun k hk => hbc.block k (HOW.out.lt k hk).2)
          have hgr := HGR.out.keep (w3 := wc) (fun i hi => hbc.block _ (HGR.out.lt i hi).2)
          have hkeep : ∀ k, k < w1.heap.size → wc.heap[k]? = w1.heap[k]? := fun k hk => (hbc.block k (by omega)).trans (HK.out k hk)
          replace hc2 := (hbc.cell (p := ⟨px, 0, none⟩) (show px < wo.heap.size by omega)).trans hc2
          replace hc3 := (hbc.cell (p := ⟨px, 1, none⟩) (show px < wo.heap.size by omega)).trans hc3
          have hbr := HB.out.trans (hbc.mono (by omega))
          have hgc : g < wc.heap.size := by have := hbc.size; omega
          have hwc : w1.heap.size ≤ wc.heap.size := by omega
          clear HOW HGR HK HB hbc CI
          have HOW := Lib.hid hown
          have HGR := Lib.hid hgr
          have HB := Lib.hid hbr
          have HK := Lib.hid hkeep
          clear hown hgr hbr hkeep
          obtain ⟨L, hL⟩ : ∃ L, G.length = L + 1 := ⟨G.length - 1, by have : 0 < G.length := List.length_pos_iff.2 HUN.out; omega⟩
          have hLG : L < G.length := by omega
          have hat0 := HGR.out.at_ L hLG
          have hownL := HGR.out.own L hLG
          have hbl1 := HGR.out.lt L hLG
          have hbl2 := HGR.out.ne L hLG
          have hkj := HSM.out G[L] (List.getElem_mem hLG)
          have hcO : wc.cell? ⟨g, L, none⟩ = some (.iface 80 (.slice (some ⟨b L, 0, none⟩) G[L].length (cc L))) := own_cell HOW.out L _ hat0
          have hfO : wc.frozen? ⟨g, L, none⟩ = false := own_frozen HOW.out L
          have HLAST := Lib.hid (fun (w3 : World) (nb c2 : Nat) a1 a2 a3 a4 => HGR.out.last (w3 := w3) (x := x) (nb := nb) (c2 := c2) hL a1 a2 a3 a4)
          have HINJ := Lib.hid (show ∀ i, i < L → b i ≠ b L from fun i hi e => by have := HGR.out.inj i L (by omega) hLG e; omega)
          have HLT := Lib.hid (show ∀ i, i < L → b i < wc.heap.size ∧ b i ≠ g from fun i hi => ⟨(HGR.out.lt i (by omega)).2, HGR.out.ne i (by omega)⟩)
          obtain ⟨bl, hbl⟩ : ∃ q, b L = q := ⟨_, rfl⟩
          obtain ⟨cl, hcl⟩ : ∃ q, cc L = q := ⟨_, rfl⟩
          obtain ⟨kk, hkk⟩ : ∃ q, G[L].length = q := ⟨_, rfl⟩
          obtain ⟨gm, hgm⟩ : ∃ q, (G[L].map fun i => cv.getD i .nilIface) = q := ⟨_, rfl⟩
          rw [hbl, hcl, hkk] at hcO hownL
          rw [hbl] at hbl1 hbl2
          rw [hkk] at hkj
          rw [hgm] at hownL
          have HBL := Lib.hid hbl
          have HCL := Lib.hid hcl
          have HKK := Lib.hid hkk
          have HGM := Lib.hid hgm
          clear hat0 hbl hcl hkk hgm
          have HT := Lib.hid (fun (bb : Bool) (W : World) (q1 : bb = false → W.heap[g]? = wc.heap[g]?) (q2 : W.heap[px]? = wc.heap[px]?) => (⟨fun hb => by simp only [World.cell?, q1 hb] at hcO ⊢; exact hcO, by simp only [World.cell?, q2] at hc2 ⊢; exact hc2⟩ : (bb = false → W.cell? ⟨g, L, none⟩ = some (.iface 80 (.slice (some ⟨bl, 0, none⟩) kk cl))) ∧ W.cell? ⟨px, 0, none⟩ = some vx))
          have HZ := Lib.hid (fun (W : World) (q : W.heap[g]? = wc.heap[g]?) => (⟨by simp only [World.cell?, q] at hcO ⊢; exact hcO, by simp only [World.frozen?, q] at hfO ⊢; exact hfO⟩ : W.cell? ⟨g, L, none⟩ = some (.iface 80 (.slice (some ⟨bl, 0, none⟩) kk cl)) ∧ W.frozen? ⟨g, L, none⟩ = false))
          have HOL := Lib.hid hownL
          have hL0 : L < 9000000 := by omega
          clear hc2 hc3 hcO hfO hownL hjb
          rw [hL]
          have HLL := Lib.hid hL
          have hgL : L < j := by omega
          clear hul
          go_upto_region 11 with (fail)
          rcases hav with rfl | ⟨T1, u1, rfl⟩
          · refine wp_region_U (fun bb W => (bb = false → W.cell? ⟨g, L, none⟩ = some (.iface 80 (.slice (some ⟨bl, 0, none⟩) kk cl))) ∧ W.cell? ⟨px, 0, none⟩ = some (.nilIface)) 19 (by kernel_rfl) ?_
            have hT0 := HT.out false wc.drew (fun _ => rfl) rfl
            refine wpAnyU_take2 (fun _ => True) (i := 0) (v := .slice (some ⟨g, 0, none⟩) (L + 1) c) rfl (by kernel_rfl) (by kernel_rfl) (by kernel_rfl) (by decide) (fun _ _ _ => trivial) (fun _ _ _ h => h) (by rfl) hT0 (fun W _ => ?_) ?_
            · go_simp
            try simp only [Act.put, List.setIfInBounds_toArray]
            refine wpAnyU_take2 (fun _ => True) (i := 1) (v := .slice (some ⟨g, 0, none⟩) (L + 1) c) rfl (by kernel_rfl) (by kernel_rfl) (by kernel_rfl) (by decide) (fun _ _ _ => trivial) (fun _ _ _ h => h) (by rfl) hT0 (fun W _ => ?_) ?_
            · go_simp
            try simp only [Act.put]
            refine wpAnyU_take2 (fun _ => True) (i := 2) (v := .int .i64 ((L : Int) + 1)) rfl (by kernel_rfl) (by kernel_rfl) (by kernel_rfl) (by decide) (fun _ _ _ => trivial) (fun _ _ _ h => h) (by rfl) hT0 (fun W _ => ?_) ?_
            · go_simp
            try simp only [Act.put]
            refine wpAnyU_take2 (fun _ => True) (i := 3) (v := .int .i64 L) rfl (by kernel_rfl) (by kernel_rfl) (by kernel_rfl) (by decide) (fun _ _ _ => trivial) (fun _ _ _ h => h) (by rfl) hT0 (fun W _ => ?_) ?_
            · go_simp
              exact IntWalk.i64_in _ (by omega)
            try simp only [Act.put]
            refine wpAnyU_take2 (fun _ => True) (i := 4) (v := .slice (some ⟨g, 0, none⟩) (L + 1) c) rfl (by kernel_rfl) (by kernel_rfl) (by kernel_rfl) (by decide) (fun _ _ _ => trivial) (fun _ _ _ h => h) (by rfl) hT0 (fun W _ => ?_) ?_
            · go_simp
            try simp only [Act.put]
            refine wpAnyU_take2 (fun _ => True) (i := 5) (v := .slice (some ⟨g, 0, none⟩) (L + 1) c) rfl (by kernel_rfl) (by kernel_rfl) (by kernel_rfl) (by decide) (fun _ _ _ => trivial) (fun _ _ _ h => h) (by rfl) hT0 (fun W _ => ?_) ?_
            · go_simp
            try simp only [Act.put]
            refine wpAnyU_take2 (fun _ => True) (i := 6) (v := .int .i64 ((L : Int) + 1)) rfl (by kernel_rfl) (by kernel_rfl) (by kernel_rfl) (by decide) (fun _ _ _ => trivial) (fun _ _ _ h => h) (by rfl) hT0 (fun W _ => ?_) ?_
            · go_simp
            try simp only [Act.put]
            refine wpAnyU_take2 (fun _ => True) (i := 7) (v := .int .i64 L) rfl (by kernel_rfl) (by kernel_rfl) (by kernel_rfl) (by decide) (fun _ _ _ => trivial) (fun _ _ _ h => h) (by rfl) hT0 (fun W _ => ?_) ?_
            · go_simp
              exact IntWalk.i64_in _ (by omega)
            try simp only [Act.put]
            refine wpAnyU_take2 (fun _ => True) (i := 8) (v := .pointer (some ⟨g, L, none⟩)) rfl (by kernel_rfl) (by kernel_rfl) (by kernel_rfl) (by decide) (fun _ _ _ => trivial) (fun _ _ _ h => h) (by rfl) hT0 (fun W _ => ?_) ?_
            · go_simp
              intro h; omega
            try simp only [Act.put]
            refine wpAnyU_take (i := 9) (v := .iface 80 (.slice (some ⟨bl, 0, none⟩) kk cl)) rfl (by kernel_rfl) (by kernel_rfl) (by kernel_rfl) (by kernel_rfl) (by rfl) (fun _ _ _ h => h) (by rfl) hT0 (fun W hW => ?_) ?_
            · have q1 := hW.1 rfl
              clear hW hT0
              go_simp
            try simp only [Act.put]
            refine wpAnyU_take2 (fun _ => True) (i := 10) (v := .slice (some ⟨bl, 0, none⟩) kk cl) rfl (by kernel_rfl) (by kernel_rfl) (by kernel_rfl) (by decide) (fun _ _ _ => trivial) (fun _ _ _ h => h) (by rfl) hT0 (fun W _ => ?_) ?_
            · go_simp
            try simp only [Act.put]
            refine wpAnyU_take2 (fun _ => True) (i := 11) (v := .pointer (some ⟨px, 0, none⟩)) rfl (by kernel_rfl) (by kernel_rfl) (by kernel_rfl) (by decide) (fun _ _ _ => trivial) (fun _ _ _ h => h) (by rfl) hT0 (fun W _ => ?_) ?_
            · go_simp
            try simp only [Act.put]
            refine wpAnyU_take2 (fun _ => True) (i := 12) (v := .pointer (some ⟨px, 0, none⟩)) rfl (by kernel_rfl) (by kernel_rfl) (by kernel_rfl) (by decide) (fun _ _ _ => trivial) (fun _ _ _ h => h) (by rfl) hT0 (fun W _ => ?_) ?_
            · go_simp
            try simp only [Act.put]
            refine wpAnyU_take2 (fun _ => True) (i := 13) (v := .pointer (some ⟨px, 0, none⟩)) rfl (by kernel_rfl) (by kernel_rfl) (by kernel_rfl) (by decide) (fun _ _ _ => trivial) (fun _ _ _ h => h) (by rfl) hT0 (fun W _ => ?_) ?_
            · go_simp
            try simp only [Act.put]
            refine wpAnyU_take2 (fun W => W.cell? ⟨px, 0, none⟩ = some (.nilIface)) (i := 14) (v := .nilIface) rfl (by kernel_rfl) (by kernel_rfl) (by kernel_rfl) (by decide) (fun _ _ h => h.2) (fun _ _ _ h => h) (by rfl) hT0 (fun W hW => ?_) ?_
            · clear hT0
              go_simp
            try simp only [Act.put]
            clear hT0
            refine wpAnyU_ready (rs := [15]) (by kernel_rfl) (by simp) ?_
            refine AllReadyU.cons rfl (fun K hK => ?_) AllReadyU.nil
            go_simp
            refine hK.out _ _ (HT.out _ _ (fun _ => heap_alloc_old wc _ (by omega)) (heap_alloc_old wc _ (by omega))) ?_
            clear hK K
            try simp only [Act.put, List.setIfInBounds_toArray, List.set_cons_zero, List.set_cons_succ]
            refine wpAnyU_ready (rs := [16]) (by kernel_rfl) (by simp) ?_
            refine AllReadyU.cons rfl (fun K hK => ?_) AllReadyU.nil
            refine step_append_lies _ (by rfl) _ _ _ (by rfl) w1.heap.size 20 iT _ 1 16 Tryz.underlying80 hiT hzT hsT hyT rfl (by omega) (.slice (some ⟨bl, 0, none⟩) kk cl) kk gm (by rfl) ((HOL.out.alloc _).drew) ⟨wc.heap.size, 0, none⟩ 1 1 [.nilIface] (by rfl) (by rfl) (World.news_of_block (cs := #[.nilIface]) (t := 20) (fr := (0, 0)) (heap_alloc_new wc _)) (by simp [Value.oneCell']) (by omega) (by unfold maxLen; omega) (by omega) (by simp; omega) _ rfl ?_
            intro g2 c2 w3 hown3 hgrow hat hlt
            have hsA : wc.heap.size + 1 ≤ w3.heap.size := by have := hgrow.size; simp at this; exact this
            have hat2 : g2 = bl ∨ wc.heap.size ≤ g2 := hat.imp (fun e => (own_eq e).symm) (fun e => by rw [e]; simp)
            have hold3 : ∀ k, k < wc.heap.size → k ≠ bl → w3.heap[k]? = wc.heap[k]? := fun k h1 h2 => (hgrow.block k (by simp; omega) (own_ne h2)).trans (heap_alloc_old wc _ h1)
            refine hK.out _ _ (HT.out _ _ (fun _ => hold3 g (by omega) (by omega)) (hold3 px (by omega) (by omega))) ?_
            clear hK K
            have HO3 := Lib.hid hold3
            have HW3 := Lib.hid hown3
            have HG3 := Lib.hid hgrow
            have hT3 := HT.out false w3 (fun _ => hold3 g (by omega) (by omega)) (hold3 px (by omega) (by omega))
            have hz := HZ.out w3 (hold3 g (by omega) (by omega))
            clear hold3 hown3 hgrow hat
            try simp only [Act.put, List.setIfInBounds_toArray]
            refine wpAnyU_take2 (fun _ => True) (i := 17) (v := .iface 80 (.slice (some ⟨g2, 0, none⟩) (kk + 1) c2)) rfl (by kernel_rfl) (by kernel_rfl) (by kernel_rfl) (by decide) (fun _ _ _ => trivial) (fun _ _ _ h => h) (by rfl) hT3 (fun W _ => ?_) ?_
            · clear hT3 hz
              go_simp
            try simp only [Act.put]
            refine wpAnyU_take2 (fun _ => True) (i := 18) (v := .pointer (some ⟨g, L, none⟩)) rfl (by kernel_rfl) (by kernel_rfl) (by kernel_rfl) (by decide) (fun _ _ _ => trivial) (fun _ _ _ h => h) (by rfl) hT3 (fun W _ => ?_) ?_
            · clear hT3 hz
              go_simp
              intro h; omega
            try simp only [Act.put]
            clear hT3
            obtain ⟨z0, f0⟩ := hz
            refine wpAnyU_ready (rs := [19]) (by kernel_rfl) (by simp) ?_
            refine AllReadyU.cons rfl (fun K hK => ?_) AllReadyU.nil
            go_simp
            refine hK.out _ _ (HT.out _ _ (fun h => absurd h (by decide)) ((Below.heap_setCell w3 ⟨g, L, none⟩ _ _ (show px ≠ g by omega)).trans (HO3.out px (by omega) (by omega)))) ?_
            clear hK K z0 f0
            try simp only [Act.put, List.setIfInBounds_toArray, List.set_cons_zero, List.set_cons_succ]
            refine wpAnyU_done (by kernel_rfl) ?_ _
            go_wp2_with fail
            have hg2 : g2 ≠ g := by omega
            have hlen : (G.dropLast ++ [G.getLastD [] ++ [x]]).length = G.length := by rw [(last_set HLL.out _).1, HLL.out]
            have hsx : ∀ k, k ≠ g → (w3.setCell ⟨g, L, none⟩ (.iface 80 (.slice (some ⟨g2, 0, none⟩) (kk + 1) c2))).heap[k]? = w3.heap[k]? := fun k hk => Below.heap_setCell w3 ⟨g, L, none⟩ _ k hk
            have hrow3 := own_set (w := w3) (v := .iface 80 (.slice (some ⟨g2, 0, none⟩) (kk + 1) c2)) (ownsRow_keep HOW.out (fun k e => by have e2 : g = k := own_eq e; rw [← e2]; exact HO3.out g (by omega) (by omega))) hLG
            have hgrp3 := HW3.out
            rw [show [.nilIface] = [cv.getD x .nilIface] by rw [HVX.out], ← HKK.out, ← HGM.out] at hgrp3
            have hG := HLAST.out (w3.setCell ⟨g, L, none⟩ (.iface 80 (.slice (some ⟨g2, 0, none⟩) (kk + 1) c2))) g2 c2 (fun i hi => (hsx _ (HLT.out i hi).2).trans (HO3.out _ (HLT.out i hi).1 (by rw [← HBL.out]; exact HINJ.out i hi))) (ownsRow_keep hgrp3 (fun k e => by have e2 : g2 = k := own_eq e; rw [← e2]; exact hsx g2 hg2)) hg2 (fun i hi e => by have h1 := (HLT.out i hi).1; have h2 := HINJ.out i hi; rw [HBL.out] at h2; omega)
            rw [HKK.out] at hG
            refine ⟨⟨j + 1, G.dropLast ++ [G.getLastD [] ++ [x]], l, g, c, _, _, _, by go_num, by omega, HU3.out, by rw [hlen, HLL.out], by rw [hlen]; exact hrow3, hG, .inr ⟨by omega, by simp, hln, HKL.out.symm⟩, by rw [hlen, HLL.out]; omega, fun k hk => (hsx k (by omega)).trans ((HO3.out k (by omega) (by omega)).trans (HK.out k hk)), ?_⟩, by simp [intOf]; omega⟩
            exact ((HB.out.alloc (by omega) _).drew.trans (below_of_grown_opt HG3.out (fun b hb => by have e : bl = b := own_eq hb; omega) (by simp; omega))).setCell (by show w.heap.size ≤ g; omega) _
          · refine wp_region_U (fun bb W => (bb = false → W.cell? ⟨g, L, none⟩ = some (.iface 80 (.slice (some ⟨bl, 0, none⟩) kk cl))) ∧ W.cell? ⟨px, 0, none⟩ = some (.iface T1 u1)) 19 (by kernel_rfl) ?_
            have hT0 := HT.out false wc.drew (fun _ => rfl) rfl
            refine wpAnyU_take2 (fun _ => True) (i := 0) (v := .slice (some ⟨g, 0, none⟩) (L + 1) c) rfl (by kernel_rfl) (by kernel_rfl) (by kernel_rfl) (by decide) (fun _ _ _ => trivial) (fun _ _ _ h => h) (by rfl) hT0 (fun W _ => ?_) ?_
            · go_simp
            try simp only [Act.put, List.setIfInBounds_toArray]
            refine wpAnyU_take2 (fun _ => True) (i := 1) (v := .slice (some ⟨g, 0, none⟩) (L + 1) c) rfl (by kernel_rfl) (by kernel_rfl) (by kernel_rfl) (by decide) (fun _ _ _ => trivial) (fun _ _ _ h => h) (by rfl) hT0 (fun W _ => ?_) ?_
            · go_simp
            try simp only [Act.put]
            refine wpAnyU_take2 (fun _ => True) (i := 2) (v := .int .i64 ((L : Int) + 1)) rfl (by kernel_rfl) (by kernel_rfl) (by kernel_rfl) (by decide) (fun _ _ _ => trivial) (fun _ _ _ h => h) (by rfl) hT0 (fun W _ => ?_) ?_
            · go_simp
            try simp only [Act.put]
            refine wpAnyU_take2 (fun _ => True) (i := 3) (v := .int .i64 L) rfl (by kernel_rfl) (by kernel_rfl) (by kernel_rfl) (by decide) (fun _ _ _ => trivial) (fun _ _ _ h => h) (by rfl) hT0 (fun W _ => ?_) ?_
            · go_simp
              exact IntWalk.i64_in _ (by omega)
            try simp only [Act.put]
            refine wpAnyU_take2 (fun _ => True) (i := 4) (v := .slice (some ⟨g, 0, none⟩) (L + 1) c) rfl (by kernel_rfl) (by kernel_rfl) (by kernel_rfl) (by decide) (fun _ _ _ => trivial) (fun _ _ _ h => h) (by rfl) hT0 (fun W _ => ?_) ?_
            · go_simp
            try simp only [Act.put]
            refine wpAnyU_take2 (fun _ => True) (i := 5) (v := .slice (some ⟨g, 0, none⟩) (L + 1) c) rfl (by kernel_rfl) (by kernel_rfl) (by kernel_rfl) (by decide) (fun _ _ _ => trivial) (fun _ _ _ h => h) (by rfl) hT0 (fun W _ => ?_) ?_
            · go_simp
            try simp only [Act.put]
            refine wpAnyU_take2 (fun _ => True) (i := 6) (v := .int .i64 ((L : Int) + 1)) rfl (by kernel_rfl) (by kernel_rfl) (by kernel_rfl) (by decide) (fun _ _ _ => trivial) (fun _ _ _ h => h) (by rfl) hT0 (fun W _ => ?_) ?_
            · go_simp
            try simp only [Act.put]
            refine wpAnyU_take2 (fun _ => True) (i := 7) (v := .int .i64 L) rfl (by kernel_rfl) (by kernel_rfl) (by kernel_rfl) (by decide) (fun _ _ _ => trivial) (fun _ _ _ h => h) (by rfl) hT0 (fun W _ => ?_) ?_
            · go_simp
              exact IntWalk.i64_in _ (by omega)
            try simp only [Act.put]
            refine wpAnyU_take2 (fun _ => True) (i := 8) (v := .pointer (some ⟨g, L, none⟩)) rfl (by kernel_rfl) (by kernel_rfl) (by kernel_rfl) (by decide) (fun _ _ _ => trivial) (fun _ _ _ h => h) (by rfl) hT0 (fun W _ => ?_) ?_
            · go_simp
              intro h; omega
            try simp only [Act.put]
            refine wpAnyU_take (i := 9) (v := .iface 80 (.slice (some ⟨bl, 0, none⟩) kk cl)) rfl (by kernel_rfl) (by kernel_rfl) (by kernel_rfl) (by kernel_rfl) (by rfl) (fun _ _ _ h => h) (by rfl) hT0 (fun W hW => ?_) ?_
            · have q1 := hW.1 rfl
              clear hW hT0
              go_simp
            try simp only [Act.put]
            refine wpAnyU_take2 (fun _ => True) (i := 10) (v := .slice (some ⟨bl, 0, none⟩) kk cl) rfl (by kernel_rfl) (by kernel_rfl) (by kernel_rfl) (by decide) (fun _ _ _ => trivial) (fun _ _ _ h => h) (by rfl) hT0 (fun W _ => ?_) ?_
            · go_simp
            try simp only [Act.put]
            refine wpAnyU_take2 (fun _ => True) (i := 11) (v := .pointer (some ⟨px, 0, none⟩)) rfl (by kernel_rfl) (by kernel_rfl) (by kernel_rfl) (by decide) (fun _ _ _ => trivial) (fun _ _ _ h => h) (by rfl) hT0 (fun W _ => ?_) ?_
            · go_simp
            try simp only [Act.put]
            refine wpAnyU_take2 (fun _ => True) (i := 12) (v := .pointer (some ⟨px, 0, none⟩)) rfl (by kernel_rfl) (by kernel_rfl) (by kernel_rfl) (by decide) (fun _ _ _ => trivial) (fun _ _ _ h => h) (by rfl) hT0 (fun W _ => ?_) ?_
            · go_simp
            try simp only [Act.put]
            refine wpAnyU_take2 (fun _ => True) (i := 13) (v := .pointer (some ⟨px, 0, none⟩)) rfl (by kernel_rfl) (by kernel_rfl) (by kernel_rfl) (by decide) (fun _ _ _ => trivial) (fun _ _ _ h => h) (by rfl) hT0 (fun W _ => ?_) ?_
            · go_simp
            try simp only [Act.put]
            refine wpAnyU_take2 (fun W => W.cell? ⟨px, 0, none⟩ = some (.iface T1 u1)) (i := 14) (v := .iface T1 u1) rfl (by kernel_rfl) (by kernel_rfl) (by kernel_rfl) (by decide) (fun _ _ h => h.2) (fun _ _ _ h => h) (by rfl) hT0 (fun W hW => ?_) ?_
            · clear hT0
              go_simp
            try simp only [Act.put]
            clear hT0
            refine wpAnyU_ready (rs := [15]) (by kernel_rfl) (by simp) ?_
            refine AllReadyU.cons rfl (fun K hK => ?_) AllReadyU.nil
            go_simp
            refine hK.out _ _ (HT.out _ _ (fun _ => heap_alloc_old wc _ (by omega)) (heap_alloc_old wc _ (by omega))) ?_
            clear hK K
            try simp only [Act.put, List.setIfInBounds_toArray, List.set_cons_zero, List.set_cons_succ]
            refine wpAnyU_ready (rs := [16]) (by kernel_rfl) (by simp) ?_
            refine AllReadyU.cons rfl (fun K hK => ?_) AllReadyU.nil
            refine step_append_lies _ (by rfl) _ _ _ (by rfl) w1.heap.size 20 iT _ 1 16 Tryz.underlying80 hiT hzT hsT hyT rfl (by omega) (.slice (some ⟨bl, 0, none⟩) kk cl) kk gm (by rfl) ((HOL.out.alloc _).drew) ⟨wc.heap.size, 0, none⟩ 1 1 [.iface T1 u1] (by rfl) (by rfl) (World.news_of_block (cs := #[.iface T1 u1]) (t := 20) (fr := (0, 0)) (heap_alloc_new wc _)) (by simp [Value.oneCell']) (by omega) (by unfold maxLen; omega) (by omega) (by simp; omega) _ rfl ?_
            intro g2 c2 w3 hown3 hgrow hat hlt
            have hsA : wc.heap.size + 1 ≤ w3.heap.size := by have := hgrow.size; simp at this; exact this
            have hat2 : g2 = bl ∨ wc.heap.size ≤ g2 := hat.imp (fun e => (own_eq e).symm) (fun e => by rw [e]; simp)
            have hold3 : ∀ k, k < wc.heap.size → k ≠ bl → w3.heap[k]? = wc.heap[k]? := fun k h1 h2 => (hgrow.block k (by simp; omega) (own_ne h2)).trans (heap_alloc_old wc _ h1)
            refine hK.out _ _ (HT.out _ _ (fun _ => hold3 g (by omega) (by omega)) (hold3 px (by omega) (by omega))) ?_
            clear hK K
            have HO3 := Lib.hid hold3
            have HW3 := Lib.hid hown3
            have HG3 := Lib.hid hgrow
            have hT3 := HT.out false w3 (fun _ => hold3 g (by omega) (by omega)) (hold3 px (by omega) (by omega))
            have hz := HZ.out w3 (hold3 g (by omega) (by omega))
            clear hold3 hown3 hgrow hat
            try simp only [Act.put, List.setIfInBounds_toArray]
            refine wpAnyU_take2 (fun _ => True) (i := 17) (v := .iface 80 (.slice (some ⟨g2, 0, none⟩) (kk + 1) c2)) rfl (by kernel_rfl) (by kernel_rfl) (by kernel_rfl) (by decide) (fun _ _ _ => trivial) (fun _ _ _ h => h) (by rfl) hT3 (fun W _ => ?_) ?_
            · clear hT3 hz
              go_simp
            try simp only [Act.put]
            refine wpAnyU_take2 (fun _ => True) (i := 18) (v := .pointer (some ⟨g, L, none⟩)) rfl (by kernel_rfl) (by kernel_rfl) (by kernel_rfl) (by decide) (fun _ _ _ => trivial) (fun _ _ _ h => h) (by rfl) hT3 (fun W _ => ?_) ?_
            · clear hT3 hz
              go_simp
              intro h; omega
            try simp only [Act.put]
            clear hT3
            obtain ⟨z0, f0⟩ := hz
            refine wpAnyU_ready (rs := [19]) (by kernel_rfl) (by simp) ?_
            refine AllReadyU.cons rfl (fun K hK => ?_) AllReadyU.nil
            go_simp
            refine hK.out _ _ (HT.out _ _ (fun h => absurd h (by decide)) ((Below.heap_setCell w3 ⟨g, L, none⟩ _ _ (show px ≠ g by omega)).trans (HO3.out px (by omega) (by omega)))) ?_
            clear hK K z0 f0
            try simp only [Act.put, List.setIfInBounds_toArray, List.set_cons_zero, List.set_cons_succ]
            refine wpAnyU_done (by kernel_rfl) ?_ _
            go_wp2_with fail
            have hg2 : g2 ≠ g := by omega
            have hlen : (G.dropLast ++ [G.getLastD [] ++ [x]]).length = G.length := by rw [(last_set HLL.out _).1, HLL.out]
            have hsx : ∀ k, k ≠ g → (w3.setCell ⟨g, L, none⟩ (.iface 80 (.slice (some ⟨g2, 0, none⟩) (kk + 1) c2))).heap[k]? = w3.heap[k]? := fun k hk => Below.heap_setCell w3 ⟨g, L, none⟩ _ k hk
            have hrow3 := own_set (w := w3) (v := .iface 80 (.slice (some ⟨g2, 0, none⟩) (kk + 1) c2)) (ownsRow_keep HOW.out (fun k e => by have e2 : g = k := own_eq e; rw [← e2]; exact HO3.out g (by omega) (by omega))) hLG
            have hgrp3 := HW3.out
            rw [show [.iface T1 u1] = [cv.getD x .nilIface] by rw [HVX.out], ← HKK.out, ← HGM.out] at hgrp3
            have hG := HLAST.out (w3.setCell ⟨g, L, none⟩ (.iface 80 (.slice (some ⟨g2, 0, none⟩) (kk + 1) c2))) g2 c2 (fun i hi => (hsx _ (HLT.out i hi).2).trans (HO3.out _ (HLT.out i hi).1 (by rw [← HBL.out]; exact HINJ.out i hi))) (ownsRow_keep hgrp3 (fun k e => by have e2 : g2 = k := own_eq e; rw [← e2]; exact hsx g2 hg2)) hg2 (fun i hi e => by have h1 := (HLT.out i hi).1; have h2 := HINJ.out i hi; rw [HBL.out] at h2; omega)
            rw [HKK.out] at hG
            refine ⟨⟨j + 1, G.dropLast ++ [G.getLastD [] ++ [x]], l, g, c, _, _, _, by go_num, by omega, HU3.out, by rw [hlen, HLL.out], by rw [hlen]; exact hrow3, hG, .inr ⟨by omega, by simp, hln, HKL.out.symm⟩, by rw [hlen, HLL.out]; omega, fun k hk => (hsx k (by omega)).trans ((HO3.out k (by omega) (by omega)).trans (HK.out k hk)), ?_⟩, by simp [intOf]; omega⟩
            exact ((HB.out.alloc (by omega) _).drew.trans (below_of_grown_opt HG3.out (fun b hb => by have e : bl = b := own_eq hb; omega) (by simp; omega))).setCell (by show w.heap.size ≤ g; omega) _
        · have hqb : (q != 0) = true := by simpa using hq
          have hu2 : grpF (keyNe fun i => Kt.getD i nullT) (S.toList.take (j + 1)) = (G ++ [[S[j]!]], S[j]!) := by rw [hTK, grpF_snoc, hu]; unfold grpPush; rw [if_pos (.inr (by rw [hne]; exact hqb))]
          have HU2 := Lib.hid hu2
          clear hu2 hTK hu
          clear hq hne
          generalize S[j]! = x at *
          obtain ⟨vx, hvx⟩ : ∃ v, cv.getD x .nilIface = v := ⟨_, rfl⟩
          obtain ⟨kx, hkx⟩ : ∃ v, ck.getD x .nilIface = v := ⟨_, rfl⟩
          rw [hvx] at hc2 hav
          rw [hkx] at hc3
          obtain ⟨kl, hkl⟩ : ∃ v, ck.getD l .nilIface = v := ⟨_, rfl⟩
          rw [hkx, hkl] at ci
          rw [hkl]
          have HKL := Lib.hid hkl
          have CI := Lib.hid ci
          clear hkl ci
          have HVX := Lib.hid hvx
          have HKX := Lib.hid hkx
          clear hvx hkx
          generalize pb x = px at *
          have hpx : px < w1.heap.size := hlpx
          have HOW := Lib.hid hown
          have HGR := Lib.hid hgr
          have HB := Lib.hid hbr
          have HK := Lib.hid hkeep
          have hgg : w1.heap.size ≤ g ∧ g < wo.heap.size := HOW.out.lt g rfl
          clear hown hgr hbr hkeep
          go_wp2_with fail
          refine CI.out.mono ?_
          rintro e wc ⟨rfl, hbc⟩
          have hown := ownsRow_keep HOW.out (fun k hk => hbc.block k (HOW.out.lt k hk).2)
          have hgr := HGR.out.keep (w3 := wc) (fun i hi => hbc.block _ (HGR.out.lt i hi).2)
          have hkeep : ∀ k, k < w1.heap.size → wc.heap[k]? = w1.heap[k]? := fun k hk => (hbc.block k (by omega)).trans (HK.out k hk)
          replace hc2 := (hbc.cell (p := ⟨px, 0, none⟩) (show px < wo.heap.size by omega)).trans hc2
          replace hc3 := (hbc.cell (p := ⟨px, 1, none⟩) (show px < wo.heap.size by omega)).trans hc3
          have hbr := HB.out.trans (hbc.mono (by omega))
          have hgc : g < wc.heap.size := by have := hbc.size; omega
          have hwc : w1.heap.size ≤ wc.heap.size := by omega
          clear HOW HGR HK HB hbc CI
          have HOW := Lib.hid hown
          have HGR := Lib.hid hgr
          have HB := Lib.hid hbr
          have HK := Lib.hid hkeep
          clear hown hgr hbr hkeep
          have HS := Lib.hid (fun (W : World) (h : W.heap[px]? = wc.heap[px]?) => (⟨by simp only [World.cell?, h] at hc2 ⊢; exact hc2, by simp only [World.cell?, h] at hc3 ⊢; exact hc3⟩ : W.cell? ⟨px, 0, none⟩ = some vx ∧ W.cell? ⟨px, 1, none⟩ = some kx))
          clear hc2 hc3
          go_upto_region 10 with (fail)
          rcases hav with rfl | ⟨T1, u1, rfl⟩
          · go_region_held3 (fun w' => w'.cell? ⟨px, 0, none⟩ = some (.nilIface) ∧ w'.cell? ⟨px, 1, none⟩ = some kx)
              (first
                | exact HS.out _ rfl
                | exact HS.out _ (Below.heap_alloc _ _ _ (by omega))
                | exact HS.out _ ((Below.heap_alloc _ _ _ (by simp; omega)).trans (Below.heap_alloc _ _ _ (by omega)))
                | exact HS.out _ ((hgrow.block px (by simp; omega) (own_ne (by omega))).trans ((Below.heap_alloc _ _ _ (by simp; omega)).trans (Below.heap_alloc _ _ _ (by omega)))))
              ((refine step_append_lies _ (by rfl) _ _ _ (by rfl) w1.heap.size 20 iT _ 1 16 Tryz.underlying80 hiT hzT hsT hyT rfl (by omega) (.slice (some ⟨g, 0, none⟩) G.length c) G.length xs (by rfl) (((HOW.out.alloc _).alloc _).drew)
                  ⟨wc.heap.size + 1, 0, none⟩ 1 1 [.iface 80 (.slice (some ⟨wc.heap.size, 0, none⟩) 1 1)] (by rfl) (by rfl) (World.news_of_block (cs := #[.iface 80 (.slice (some ⟨wc.heap.size, 0, none⟩) 1 1)]) (t := 20) (fr := (0, 0)) (new_two wc _ _)) (by simp [Value.oneCell'])
                  (by omega) (by unfold maxLen; omega) (by omega) (by simp; omega) (wc.heap.size + 2) (by simp) ?_; intro g2 c2 w3 hown3 hgrow hat hlt))
            go_wp2_with fail
            have hat2 : g2 = g ∨ g2 = wc.heap.size + 2 := hat.imp (fun e => (own_eq e).symm) id
            have hold3 : ∀ k, k < wc.heap.size → k ≠ g → w3.heap[k]? = wc.heap[k]? := fun k h1 h2 => (hgrow.block k (by simp; omega) (own_ne h2)).trans ((Below.heap_alloc _ _ _ (by simp; omega)).trans (Below.heap_alloc _ _ _ h1))
            have hnew3 : w3.heap[wc.heap.size]? = some (.cells #[.nilIface] 20 (0, 0)) := (hgrow.block _ (by simp; omega) (own_ne (by omega))).trans ((Below.heap_alloc _ _ _ (by simp)).trans (heap_alloc_new wc _))
            refine ⟨⟨j + 1, G ++ [[x]], x, g2, c2, _, _, _, by go_num, by omega, HU2.out, by simp, by simpa using hown3, HGR.out.push (fun i hi => hold3 _ (HGR.out.lt i hi).2 (HGR.out.ne i hi)) (?_ : w3.ownsRow w1.heap.size 20 1 (.slice (some ⟨wc.heap.size, 0, none⟩) 1 1) 1 [cv.getD x .nilIface]) (by omega) (fun i hi => ?_), .inr ⟨by omega, by simp, hx, HKX.out.symm⟩, by simp; omega, fun k hk => (hold3 k (by omega) (by omega)).trans (HK.out k hk), ?_⟩, by simp [intOf]; omega⟩
            · rw [HVX.out]
              exact ⟨rfl, .inr ⟨wc.heap.size, 1, #[.nilIface], rfl, by omega, hnew3, Nat.le_refl _, by simp [maxLen], rfl, rfl⟩⟩
            · have h1 := (HGR.out.lt i hi).2
              have h2 := HGR.out.ne i hi
              omega
            · exact ((HB.out.alloc (by omega) _).alloc (by simp; omega) _).drew.trans (below_of_grown_opt hgrow (fun b hb => by have e : g = b := own_eq hb; omega) (by simp; omega))
          · go_region_held3 (fun w' => w'.cell? ⟨px, 0, none⟩ = some (.iface T1 u1) ∧ w'.cell? ⟨px, 1, none⟩ = some kx)
              (first
                | exact HS.out _ rfl
                | exact HS.out _ (Below.heap_alloc _ _ _ (by omega))
                | exact HS.out _ ((Below.heap_alloc _ _ _ (by simp; omega)).trans (Below.heap_alloc _ _ _ (by omega)))
                | exact HS.out _ ((hgrow.block px (by simp; omega) (own_ne (by omega))).trans ((Below.heap_alloc _ _ _ (by simp; omega)).trans (Below.heap_alloc _ _ _ (by omega)))))
              ((refine step_append_lies _ (by rfl) _ _ _ (by rfl) w1.heap.size 20 iT _ 1 16 Tryz.underlying80 hiT hzT hsT hyT rfl (by omega) (.slice (some ⟨g, 0, none⟩) G.length c) G.length xs (by rfl) (((HOW.out.alloc _).alloc _).drew)
                  ⟨wc.heap.size + 1, 0, none⟩ 1 1 [.iface 80 (.slice (some ⟨wc.heap.size, 0, none⟩) 1 1)] (by rfl) (by rfl) (World.news_of_block (cs := #[.iface 80 (.slice (some ⟨wc.heap.size, 0, none⟩) 1 1)]) (t := 20) (fr := (0, 0)) (new_two wc _ _)) (by simp [Value.oneCell'])
                  (by omega) (by unfold maxLen; omega) (by omega) (by simp; omega) (wc.heap.size + 2) (by simp) ?_; intro g2 c2 w3 hown3 hgrow hat hlt))
            go_wp2_with fail
            have hat2 : g2 = g ∨ g2 = wc.heap.size + 2 := hat.imp (fun e => (own_eq e).symm) id
            have hold3 : ∀ k, k < wc.heap.size → k ≠ g → w3.heap[k]? = wc.heap[k]? := fun k h1 h2 => (hgrow.block k (by simp; omega) (own_ne h2)).trans ((Below.heap_alloc _ _ _ (by simp; omega)).trans (Below.heap_alloc _ _ _ h1))
            have hnew3 : w3.heap[wc.heap.size]? = some (.cells #[.iface T1 u1] 20 (0, 0)) := (hgrow.block _ (by simp; omega) (own_ne (by omega))).trans ((Below.heap_alloc _ _ _ (by simp)).trans (heap_alloc_new wc _))
            refine ⟨⟨j + 1, G ++ [[x]], x, g2, c2, _, _, _, by go_num, by omega, HU2.out, by simp, by simpa using hown3, HGR.out.push (fun i hi => hold3 _ (HGR.out.lt i hi).2 (HGR.out.ne i hi)) (?_ : w3.ownsRow w1.heap.size 20 1 (.slice (some ⟨wc.heap.size, 0, none⟩) 1 1) 1 [cv.getD x .nilIface]) (by omega) (fun i hi => ?_), .inr ⟨by omega, by simp, hx, HKX.out.symm⟩, by simp; omega, fun k hk => (hold3 k (by omega) (by omega)).trans (HK.out k hk), ?_⟩, by simp [intOf]; omega⟩
            · rw [HVX.out]
              exact ⟨rfl, .inr ⟨wc.heap.size, 1, #[.iface T1 u1], rfl, by omega, hnew3, Nat.le_refl _, by simp [maxLen], rfl, rfl⟩⟩
            · have h1 := (HGR.out.lt i hi).2
              have h2 := HGR.out.ne i hi
              omega
            · exact ((HB.out.alloc (by omega) _).alloc (by simp; omega) _).drew.trans (below_of_grown_opt hgrow (fun b hb => by have e : g = b := own_eq hb; omega) (by simp; omega))
    · have ej : j = n := by omega
      have hsS := HR.out.size
      rw [List.take_of_length_le (by simp; omega)] at hu
      have HU := Lib.hid hu
      have HOW := Lib.hid hown
      have HGR := Lib.hid hgr
      clear hu hown hgr hst hkeep hsS
      go_wp2_with fail
      go_ret
      rw [HU.out]
      exact ⟨g, c, b, cc, xs, rfl, own_low HOW.out hs1, HGR.out.low hs1, inB_of HR.out.size HR.out.lt, hbr⟩
end Go.Proofs.YtmjegeipnaalnaaGreatDoor
