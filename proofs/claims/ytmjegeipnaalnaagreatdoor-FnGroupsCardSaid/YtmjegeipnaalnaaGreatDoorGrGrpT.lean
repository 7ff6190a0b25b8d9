/- Groups of neighbours with equal keys, as plain lists of places. unique_by: the values of the firsts of neighbours with equal keys: the walk. Groups as they lie: a row of rows, each a block of its own. -/
import Derived.Sort.WalkA
import Derived.Test.YtmjegeipnaalnaaGreatDoorGrItems
import Derived.Test.YtmjegeipnaalnaaGreatDoorGrFroG

/- Groups of neighbours with equal keys, as plain lists of places. -/
namespace Go.Proofs.YtmjegeipnaalnaaGreatDoor

/-- One more place: a new group, or one more in the last group. 'last': the place of the last group's first. -/
def grpPush (ne : Nat → Nat → Bool) (st : List (List Nat) × Nat) (i : Nat) : List (List Nat) × Nat :=
  if st.1 = [] ∨ ne st.2 i = true then (st.1 ++ [[i]], i) else (st.1.dropLast ++ [st.1.getLastD [] ++ [i]], st.2)
def grpF (ne : Nat → Nat → Bool) (l : List Nat) : List (List Nat) × Nat := l.foldl (grpPush ne) ([], 0)
theorem grpF_snoc (ne : Nat → Nat → Bool) (l : List Nat) (i : Nat) : grpF ne (l ++ [i]) = grpPush ne (grpF ne l) i := by
  unfold grpF; rw [List.foldl_append]; rfl

/-- One more place among the firsts. -/
def unqPush (ne : Nat → Nat → Bool) (st : List Nat × Nat) (i : Nat) : List Nat × Nat :=
  if st.1 = [] ∨ ne st.2 i = true then (st.1 ++ [i], i) else st
def unqF (ne : Nat → Nat → Bool) (l : List Nat) : List Nat × Nat := l.foldl (unqPush ne) ([], 0)
theorem unqF_snoc (ne : Nat → Nat → Bool) (l : List Nat) (i : Nat) : unqF ne (l ++ [i]) = unqPush ne (unqF ne l) i := by
  unfold unqF; rw [List.foldl_append]; rfl

theorem dropLast_last {α : Type} {x : List (List α)} (h : x ≠ []) : x = x.dropLast ++ [x.getLastD []] := by
  induction x with
  | nil => exact absurd rfl h
  | cons a r ih =>
    cases r with
    | nil => rfl
    | cons b r =>
      have := ih (by simp)
      show a :: b :: r = (a :: (b :: r).dropLast) ++ [(b :: r).getLastD []]
      rw [List.cons_append, ← this]

/-- What the groups are: end to end they are the list, none is empty, their firsts are the firsts. -/
theorem grp_law (ne : Nat → Nat → Bool) (l : List Nat) : (grpF ne l).1.flatten = l ∧ (∀ g ∈ (grpF ne l).1, g ≠ []) ∧ (grpF ne l).1.map (·.headD 0) = (unqF ne l).1 ∧ (grpF ne l).2 = (unqF ne l).2 := by
  suffices h : ∀ r l : List Nat, l.reverse = r → (grpF ne l).1.flatten = l ∧ (∀ g ∈ (grpF ne l).1, g ≠ []) ∧ (grpF ne l).1.map (·.headD 0) = (unqF ne l).1 ∧ (grpF ne l).2 = (unqF ne l).2 from h _ l rfl
  intro r
  induction r with
  | nil =>
    intro l h
    have : l = [] := by simpa using h
    subst this
    exact ⟨rfl, by simp [grpF], rfl, rfl⟩
  | cons i r ih =>
    intro l h
    have e : l = r.reverse ++ [i] := by rw [← List.reverse_reverse l, h]; simp
    subst e
    obtain ⟨h1, h2, h3, h4⟩ := ih r.reverse (by simp)
    generalize r.reverse = l at *
    rw [grpF_snoc, unqF_snoc]
    generalize grpF ne l = st at *
    generalize unqF ne l = su at *
    obtain ⟨g, p⟩ := st
    obtain ⟨u, q⟩ := su
    simp only at h1 h2 h3 h4
    subst h4
    have hnil : (g = []) ↔ (u = []) := by rw [← h3]; simp
    unfold grpPush unqPush
    simp only
    by_cases hc : g = [] ∨ ne p i = true
    · rw [if_pos hc, if_pos (by rw [← hnil]; exact hc)]
      refine ⟨by simp [h1], ?_, by rw [List.map_append, h3]; rfl, rfl⟩
      intro x hx
      rcases List.mem_append.1 hx with hx | hx
      · exact h2 x hx
      · have : x = [i] := by simpa using hx
        subst this; simp
    · rw [if_neg hc, if_neg (by rw [← hnil]; exact hc)]
      have hg : g ≠ [] := fun e => hc (.inl e)
      have hd := dropLast_last hg
      have hne : g.getLastD [] ≠ [] := h2 _ (by rw [hd]; simp)
      refine ⟨?_, ?_, ?_, rfl⟩
      · show (g.dropLast ++ [g.getLastD [] ++ [i]]).flatten = l ++ [i]
        rw [← h1]
        conv => rhs; rw [hd]
        simp
      · intro x hx
        rcases List.mem_append.1 hx with hx | hx
        · exact h2 x (by rw [hd]; exact List.mem_append.2 (.inl hx))
        · have : x = g.getLastD [] ++ [i] := by simpa using hx
          subst this; simp
      · show (g.dropLast ++ [g.getLastD [] ++ [i]]).map (·.headD 0) = u
        rw [← h3]
        conv => rhs; rw [hd]
        rw [List.map_append, List.map_append]
        congr 1
        simp only [List.map_cons, List.map_nil]
        congr 1
        cases hq : g.getLastD [] with
        | nil => exact absurd hq hne
        | cons a b => rfl
end Go.Proofs.YtmjegeipnaalnaaGreatDoor

/- unique_by: the values of the firsts of neighbours with equal keys: the walk. -/
namespace Go.Proofs.YtmjegeipnaalnaaGreatDoor
open Go.RowKit Go.Sort

theorem own_low {w : World} {base base' : Nat} {e : TypeId} {size : Nat} {v : Value} {n : Nat} {xs : List Value} (h : w.ownsRow base e size v n xs) (hb : base' ≤ base) : w.ownsRow base' e size v n xs :=
  ⟨h.1, h.2.imp id fun ⟨g, cap, cur, a, b, c⟩ => ⟨g, cap, cur, a, Nat.le_trans hb b, c⟩⟩
theorem own_ne {g n c k : Nat} (h : k ≠ g) : some k ≠ Value.ownBlock (.slice (some ⟨g, 0, none⟩) n c) := fun e => h (by simpa [Value.ownBlock] using e)
theorem own_eq {g n c k : Nat} (h : Value.ownBlock (.slice (some ⟨g, 0, none⟩) n c) = some k) : g = k := by simpa [Value.ownBlock] using h
/-- Whether the keys of two places differ. -/
def keyNe (kt : Nat → JV) (i j : Nat) : Bool := ordT (kt i) (kt j) != 0

set_option maxRecDepth 100000 in
set_option maxHeartbeats 8000000 in
theorem uniqBy_walk (nm : ByteArray) (n bv bk : Nat) (Kt : List JV) (cv ck : List Value) (Tv Tk : TypeId) (w : World) (hlk : Kt.length = n) (hnv : cv.length = n) (hn : n ≤ 1000000) (hbv : bv < w.heap.size) (hbk : bk < w.heap.size)
    (hSV : ∀ j, j < n → AnyV (cv.getD j .nilIface)) (hcv : w.heap[bv]? = some (.cells (List.toArray cv) Tv (0, 0))) (hck : w.heap[bk]? = some (.cells (List.toArray ck) Tk (0, 0))) (hK : GVals w 0 w.heap.size Kt ck) (hG : GoodL Kt) (hS : ShortL Kt) :
    Calls Tryz.prog 145 #[.string nm, .iface 80 (.slice (some ⟨bv, 0, none⟩) n n), .iface 80 (.slice (some ⟨bk, 0, none⟩) n n)] w fun e w' => ∃ v, e = .returned (.iface 80 v) ∧
      w'.ownsRow w.heap.size 20 1 v (unqF (keyNe fun i => Kt.getD i nullT) (sortA (fun i => Kt.getD i nullT) n).toList).1.length ((unqF (keyNe fun i => Kt.getD i nullT) (sortA (fun i => Kt.getD i nullT) n).toList).1.map fun i => cv.getD i .nilIface) ∧ (∃ g c, v = .slice (some ⟨g, 0, none⟩) (unqF (keyNe fun i => Kt.getD i nullT) (sortA (fun i => Kt.getD i nullT) n).toList).1.length c) ∧ InB n (sortA (fun i => Kt.getD i nullT) n).toList ∧ Below w.heap.size w w' := by
  have C := Lib.hid (items_walk nm n bv bk Kt cv ck Tv Tk w hlk hnv hn hbv hbk hSV hcv hck hK hG hS)
  have HGS := Lib.hid (show ∀ i, i < n → Good (Kt.getD i nullT) ∧ Short (Kt.getD i nullT) from fun i hi => by
    have h1 : i < Kt.length := by omega
    rw [List.getD_eq_getElem?_getD, List.getElem?_eq_getElem h1]
    exact ⟨hG.get _ (List.getElem_mem h1), hS.get _ (List.getElem_mem h1)⟩)
  clear hnv hcv hck hK hlk
  generalize sortA (fun i => Kt.getD i nullT) n = S at *
  go_enter Tryz.func145, Tryz.ntmps145
  go_wp2_with fail
  refine C.out.mono ?_
  rintro e w1 ⟨blk, bx, pb, rfl, hge, hR, hb1⟩
  have HR := Lib.hid hR
  have hlow := hR.low
  have hN := heap_alloc_new w1 (.cells #[] 20)
  have hB := hb1.alloc hb1.size (.cells #[] 20)
  have hold : ∀ k, k < w1.heap.size → (w1.alloc (.cells #[] 20)).heap[k]? = w1.heap[k]? := fun k hk => heap_alloc_old w1 _ hk
  have hs1 := hb1.size
  have ORD := Lib.hid (fun (W : World) (hW : ∀ k, k < w1.heap.size → W.heap[k]? = w1.heap[k]?) (hsz : w1.heap.size ≤ W.heap.size) (i j : Nat) (hi : i < n) (hj : j < n) => ord_all (Kt.getD j nullT) (Kt.getD i nullT) (ck.getD i .nilIface) (ck.getD j .nilIface) W
    (GRep.mono (fun k _ hk => hW k (by omega)) (Nat.le_refl _) (by omega) _ _ (HR.out.key i hi)) (GRep.mono (fun k _ hk => hW k (by omega)) (Nat.le_refl _) (by omega) _ _ (HR.out.key j hj)) (HGS.out i hi).1 (HGS.out j hj).1 (HGS.out i hi).2 (HGS.out j hj).2)
  clear hR C HGS
  go_wp2_with fail
  have hsz : w1.heap.size + 1 ≤ (w1.alloc (.cells #[] 20)).heap.size := by simp
  generalize w1.alloc (.cells #[] 20) = w2 at *
  go_loopw [9, 10, 26] (fun v9 v10 v26 wr => ∃ (j : Nat) (u : List Nat) (l g c : Nat), v26 = .int .i64 j ∧ j ≤ n ∧ unqF (keyNe fun i => Kt.getD i nullT) (S.toList.take j) = (u, l) ∧ v9 = .slice (some ⟨g, 0, none⟩) u.length c ∧ wr.ownsRow w1.heap.size 20 1 (.slice (some ⟨g, 0, none⟩) u.length c) u.length (u.map fun i => cv.getD i .nilIface) ∧ ((j = 0 ∧ u = [] ∧ v10 = .nilIface) ∨ (0 < j ∧ u ≠ [] ∧ l < n ∧ v10 = ck.getD l .nilIface)) ∧ u.length ≤ j ∧ (∀ k, k < w1.heap.size → wr.heap[k]? = w1.heap[k]?) ∧ Below w.heap.size w wr) (fun _ _ vi _ => n - (intOf vi).toNat)
  case atStart =>
    exact ⟨0, [], 0, w1.heap.size, 0, rfl, Nat.zero_le _, by simp [unqF], rfl, ⟨by simp, .inr ⟨_, 0, #[], rfl, Nat.le_refl _, hN, Nat.le_refl _, by simp [maxLen], by simp, by simp⟩⟩, .inl ⟨rfl, rfl, rfl⟩, Nat.le_refl _, hold, hB⟩
  case round =>
    obtain ⟨j, u, l, g, c, rfl, hj, hu, rfl, hown, hst, hul, hkeep, hbr⟩ := hrel
    obtain ⟨wo, rfl⟩ : ∃ wo, wo = wr := ⟨_, rfl⟩
    have hwo : w1.heap.size ≤ wo.heap.size := by have := hown.lt g rfl; omega
    by_cases hjn : j < n
    · have hc1 : wo.cell? ⟨blk, j, none⟩ = some (.pointer (some ⟨pb S[j]!, 0, none⟩)) := by
        have := (HR.out.holds j (by rw [HR.out.size]; exact hjn)).1
        rw [Nat.zero_add] at this
        simp only [World.cell?, hkeep blk hlow] at this ⊢
        exact this
      have hx := HR.out.lt j hjn
      have hit := HR.out.item _ hx
      have hlpx := heap_lt hit
      obtain ⟨hc2, hc3⟩ := box2' ((hkeep _ hlpx).trans hit)
      have hTK := take_at HR.out.size hjn
      have hav := hSV _ hx
      obtain ⟨iT, hiT, hzT, hsT, hyT⟩ : ∃ i, Tryz.prog.info? 20 = some i ∧ i.zero = some .nilIface ∧ i.size = 1 ∧ i.bytes = 16 := ⟨Tryz.t20, by kernel_rfl, by kernel_rfl, by kernel_rfl, by kernel_rfl⟩
      clear hit
      rcases hst with ⟨hj0, hu0, rfl⟩ | ⟨hj0, hune, hln, rfl⟩
      · have hjb : ((j : Int) == 0) = true := by simp; omega
        have HU0 := Lib.hid hu0
        clear hj0 hu0
        have hu2 : unqF (keyNe fun i => Kt.getD i nullT) (S.toList.take (j + 1)) = (u ++ [S[j]!], S[j]!) := by rw [hTK, unqF_snoc, hu]; unfold unqPush; rw [if_pos (.inl HU0.out)]
        have HU2 := Lib.hid hu2
        clear hu2 hTK hu
        generalize S[j]! = x at *
        obtain ⟨vx, hvx⟩ : ∃ v, cv.getD x .nilIface = v := ⟨_, rfl⟩
        obtain ⟨kx, hkx⟩ : ∃ v, ck.getD x .nilIface = v := ⟨_, rfl⟩
        rw [hvx] at hc2 hav
        rw [hkx] at hc3
        have HVX := Lib.hid hvx
        have HKX := Lib.hid hkx
        clear hvx hkx
        generalize pb x = px at *
        have hpx : px < w1.heap.size := hlpx
        have HOW := Lib.hid hown
        have HB := Lib.hid hbr
        have HK := Lib.hid hkeep
        have hgg : w1.heap.size ≤ g ∧ g < wo.heap.size := HOW.out.lt g rfl
        clear hown hbr hkeep
        have HS := Lib.hid (fun (W : World) (h : W.heap[px]? = wo.heap[px]?) => (⟨by simp only [World.cell?, h] at hc2 ⊢; exact hc2, by simp only [World.cell?, h] at hc3 ⊢; exact hc3⟩ : W.cell? ⟨px, 0, none⟩ = some vx ∧ W.cell? ⟨px, 1, none⟩ = some kx))
        clear hc2 hc3
        go_upto_region 10 with (fail)
        rcases hav with rfl | ⟨T1, u1, rfl⟩
        · go_region_held3 (fun w' => w'.cell? ⟨px, 0, none⟩ = some (.nilIface) ∧ w'.cell? ⟨px, 1, none⟩ = some kx)
            (first
              | exact HS.out _ rfl
              | exact HS.out _ (Below.heap_alloc _ _ _ (by omega))
              | exact HS.out _ ((hgrow.block px (by simp; omega) (own_ne (by omega))).trans (Below.heap_alloc _ _ _ (by omega))))
            ((refine step_append_lies _ (by rfl) _ _ _ (by rfl) w1.heap.size 20 iT _ 1 16 Tryz.underlying80 hiT hzT hsT hyT rfl (by omega) (.slice (some ⟨g, 0, none⟩) u.length c) u.length (u.map fun i => cv.getD i .nilIface) (by rfl) ((HOW.out.alloc _).drew)
                ⟨wo.heap.size, 0, none⟩ 1 1 [.nilIface] (by rfl) (by rfl) (World.news_of_block (cs := #[.nilIface]) (t := 20) (fr := (0, 0)) (heap_alloc_new wo _)) (by simp [Value.oneCell'])
                (by omega) (by unfold maxLen; omega) (by omega) (by simp; omega) (wo.heap.size + 1) (by simp) ?_; intro g2 c2 w3 hown3 hgrow hat hlt))
          go_wp2_with fail
          refine ⟨⟨j + 1, u ++ [x], x, g2, c2, by go_num, by omega, HU2.out, by simp, ?_, .inr ⟨by omega, by simp, hx, HKX.out.symm⟩, by simp; omega, ?_, ?_⟩, by simp [intOf]; omega⟩
          · rw [List.map_append, List.length_append]
            simp only [List.map_cons, List.map_nil, List.length_cons, List.length_nil, HVX.out]
            exact hown3
          · exact fun k hk => (hgrow.block k (by simp; omega) (own_ne (by omega))).trans ((Below.heap_alloc _ _ _ (by omega)).trans (HK.out k hk))
          · exact (HB.out.alloc (by omega) _).drew.trans (below_of_grown_opt hgrow (fun b hb => by have e : g = b := own_eq hb; omega) (by simp; omega))
        · go_region_held3 (fun w' => w'.cell? ⟨px, 0, none⟩ = some (.iface T1 u1) ∧ w'.cell? ⟨px, 1, none⟩ = some kx)
            (first
              | exact HS.out _ rfl
              | exact HS.out _ (Below.heap_alloc _ _ _ (by omega))
              | exact HS.out _ ((hgrow.block px (by simp; omega) (own_ne (by omega))).trans (Below.heap_alloc _ _ _ (by omega))))
            ((refine step_append_lies _ (by rfl) _ _ _ (by rfl) w1.heap.size 20 iT _ 1 16 Tryz.underlying80 hiT hzT hsT hyT rfl (by omega) (.slice (some ⟨g, 0, none⟩) u.length c) u.length (u.map fun i => cv.getD i .nilIface) (by rfl) ((HOW.out.alloc _).drew)
                ⟨wo.heap.size, 0, none⟩ 1 1 [.iface T1 u1] (by rfl) (by rfl) (World.news_of_block (cs := #[.iface T1 u1]) (t := 20) (fr := (0, 0)) (heap_alloc_new wo _)) (by simp [Value.oneCell'])
                (by omega) (by unfold maxLen; omega) (by omega) (by simp; omega) (wo.heap.size + 1) (by simp) ?_; intro g2 c2 w3 hown3 hgrow hat hlt))
          go_wp2_with fail
          refine ⟨⟨j + 1, u ++ [x], x, g2, c2, by go_num, by omega, HU2.out, by simp, ?_, .inr ⟨by omega, by simp, hx, HKX.out.symm⟩, by simp; omega, ?_, ?_⟩, by simp [intOf]; omega⟩
          · rw [List.map_append, List.length_append]
            simp only [List.map_cons, List.map_nil, List.length_cons, List.length_nil, HVX.out]
            exact hown3
          · exact fun k hk => (hgrow.block k (by simp; omega) (own_ne (by omega))).trans ((Below.heap_alloc _ _ _ (by omega)).trans (HK.out k hk))
          · exact (HB.out.alloc (by omega) _).drew.trans (below_of_grown_opt hgrow (fun b hb => by have e : g = b := own_eq hb; omega) (by simp; omega))
      · have hjb : ((j : Int) == 0) = false := by simp; omega
        have ci := ORD.out wo hkeep hwo l S[j]! hln hx
        have hne : keyNe (fun i => Kt.getD i nullT) l S[j]! = (ordT (Kt.getD l nullT) (Kt.getD S[j]! nullT) != 0) := rfl
        generalize ordT (Kt.getD l nullT) (Kt.getD S[j]! nullT) = q at *
        have HUN := Lib.hid hune
        clear hune
        by_cases hq : q = 0
        · subst hq
          have hu3 : unqF (keyNe fun i => Kt.getD i nullT) (S.toList.take (j + 1)) = (u, l) := by rw [hTK, unqF_snoc, hu]; unfold unqPush; rw [if_neg (by rw [hne]; simp; exact HUN.out)]
          have HU3 := Lib.hid hu3
          clear hu3 hTK hu hne
          generalize S[j]! = x at *
          obtain ⟨vx, hvx⟩ : ∃ v, cv.getD x .nilIface = v := ⟨_, rfl⟩
          obtain ⟨kx, hkx⟩ : ∃ v, ck.getD x .nilIface = v := ⟨_, rfl⟩
          rw [hvx] at hc2 hav
          rw [hkx] at hc3
          obtain ⟨kl, hkl⟩ : ∃ v, ck.getD l .nilIface = v := ⟨_, rfl⟩
          rw [hkx, hkl] at ci
          rw [hkl]
          have HKL := Lib.hid hkl
          have CI := Lib.hid ci
          clear hkl ci
          have HVX := Lib.hid hvx
          have HKX := Lib.hid hkx
          clear hvx hkx
          generalize pb x = px at *
          have hpx : px < w1.heap.size := hlpx
          have HOW := Lib.hid hown
          have HB := Lib.hid hbr
          have HK := Lib.hid hkeep
          have hgg : w1.heap.size ≤ g ∧ g < wo.heap.size := HOW.out.lt g rfl
          clear hown hbr hkeep
          go_wp2_with fail
          refine CI.out.mono ?_
          rintro e wc ⟨rfl, hbc⟩
          have hown := ownsRow_keep HOW.out (fun k hk => hbc.block k (HOW.out.lt k hk).2)
          have hkeep : ∀ k, k < w1.heap.size → wc.heap[k]? = w1.heap[k]? := fun k hk => (hbc.block k (by omega)).trans (HK.out k hk)
          replace hc2 := (hbc.cell (p := ⟨px, 0, none⟩) (show px < wo.heap.size by omega)).trans hc2
          replace hc3 := (hbc.cell (p := ⟨px, 1, none⟩) (show px < wo.heap.size by omega)).trans hc3
          have hbr := HB.out.trans (hbc.mono (by omega))
          have hgc : g < wc.heap.size := by have := hbc.size; omega
          have hwc : w1.heap.size ≤ wc.heap.size := by omega
          clear HOW HK HB hbc CI
          have HOW := Lib.hid hown
          have HB := Lib.hid hbr
          have HK := Lib.hid hkeep
          clear hown hbr hkeep
          go_wp2_with fail
          exact ⟨⟨j + 1, u, l, g, c, by go_num, by omega, HU3.out, rfl, HOW.out, .inr ⟨by omega, HUN.out, hln, HKL.out.symm⟩, by omega, HK.out, HB.out⟩, by simp [intOf]; omega⟩
        · have hqb : (q != 0) = true := by simpa using hq
          have hu2 : unqF (keyNe fun i => Kt.getD i nullT) (S.toList.take (j + 1)) = (u ++ [S[j]!], S[j]!) := by rw [hTK, unqF_snoc, hu]; unfold unqPush; rw [if_pos (.inr (by rw [hne]; exact hqb))]
          have HU2 := Lib.hid hu2
          clear hu2 hTK hu
          clear hq hne
          generalize S[j]! = x at *
          obtain ⟨vx, hvx⟩ : ∃ v, cv.getD x .nilIface = v := ⟨_, rfl⟩
          obtain ⟨kx, hkx⟩ : ∃ v, ck.getD x .nilIface = v := ⟨_, rfl⟩
          rw [hvx] at hc2 hav
          rw [hkx] at hc3
          obtain ⟨kl, hkl⟩ : ∃ v, ck.getD l .nilIface = v := ⟨_, rfl⟩
          rw [hkx, hkl] at ci
          rw [hkl]
          have HKL := Lib.hid hkl
          have CI := Lib.hid ci
          clear hkl ci
          have HVX := Lib.hid hvx
          have HKX := Lib.hid hkx
          clear hvx hkx
          generalize pb x = px at *
          have hpx : px < w1.heap.size := hlpx
          have HOW := Lib.hid hown
          have HB := Lib.hid hbr
          have HK := Lib.hid hkeep
          have hgg : w1.heap.size ≤ g ∧ g < wo.heap.size := HOW.out.lt g rfl
          clear hown hbr hkeep
          go_wp2_with fail
          refine CI.out.mono ?_
          rintro e wc ⟨rfl, hbc⟩
          have hown := ownsRow_keep HOW.out (fun k hk => hbc.block k (HOW.out.lt k hk).2)
          have hkeep : ∀ k, k < w1.heap.size → wc.heap[k]? = w1.heap[k]? := fun k hk => (hbc.block k (by omega)).trans (HK.out k hk)
          replace hc2 := (hbc.cell (p := ⟨px, 0, none⟩) (show px < wo.heap.size by omega)).trans hc2
          replace hc3 := (hbc.cell (p := ⟨px, 1, none⟩) (show px < wo.heap.size by omega)).trans hc3
          have hbr := HB.out.trans (hbc.mono (by omega))
          have hgc : g < wc.heap.size := by have := hbc.size; omega
          have hwc : w1.heap.size ≤ wc.heap.size := by omega
          clear HOW HK HB hbc CI
          have HOW := Lib.hid hown
          have HB := Lib.hid hbr
          have HK := Lib.hid hkeep
          clear hown hbr hkeep
          have HS := Lib.hid (fun (W : World) (h : W.heap[px]? = wc.heap[px]?) => (⟨by simp only [World.cell?, h] at hc2 ⊢; exact hc2, by simp only [World.cell?, h] at hc3 ⊢; exact hc3⟩ : W.cell? ⟨px, 0, none⟩ = some vx ∧ W.cell? ⟨px, 1, none⟩ = some kx))
          clear hc2 hc3
          go_upto_region 10 with (fail)
          rcases hav with rfl | ⟨T1, u1, rfl⟩
          · go_region_held3 (fun w' => w'.cell? ⟨px, 0, none⟩ = some (.nilIface) ∧ w'.cell? ⟨px, 1, none⟩ = some kx)
              (first
                | exact HS.out _ rfl
                | exact HS.out _ (Below.heap_alloc _ _ _ (by omega))
                | exact HS.out _ ((hgrow.block px (by simp; omega) (own_ne (by omega))).trans (Below.heap_alloc _ _ _ (by omega))))
              ((refine step_append_lies _ (by rfl) _ _ _ (by rfl) w1.heap.size 20 iT _ 1 16 Tryz.underlying80 hiT hzT hsT hyT rfl (by omega) (.slice (some ⟨g, 0, none⟩) u.length c) u.length (u.map fun i => cv.getD i .nilIface) (by rfl) ((HOW.out.alloc _).drew)
                  ⟨wc.heap.size, 0, none⟩ 1 1 [.nilIface] (by rfl) (by rfl) (World.news_of_block (cs := #[.nilIface]) (t := 20) (fr := (0, 0)) (heap_alloc_new wc _)) (by simp [Value.oneCell'])
                  (by omega) (by unfold maxLen; omega) (by omega) (by simp; omega) (wc.heap.size + 1) (by simp) ?_; intro g2 c2 w3 hown3 hgrow hat hlt))
            go_wp2_with fail
            refine ⟨⟨j + 1, u ++ [x], x, g2, c2, by go_num, by omega, HU2.out, by simp, ?_, .inr ⟨by omega, by simp, hx, HKX.out.symm⟩, by simp; omega, ?_, ?_⟩, by simp [intOf]; omega⟩
            · rw [List.map_append, List.length_append]
              simp only [List.map_cons, List.map_nil, List.length_cons, List.length_nil, HVX.out]
              exact hown3
            · exact fun k hk => (hgrow.block k (by simp; omega) (own_ne (by omega))).trans ((Below.heap_alloc _ _ _ (by omega)).trans (HK.out k hk))
            · exact (HB.out.alloc (by omega) _).drew.trans (below_of_grown_opt hgrow (fun b hb => by have e : g = b := own_eq hb; omega) (by simp; omega))
          · go_region_held3 (fun w' => w'.cell? ⟨px, 0, none⟩ = some (.iface T1 u1) ∧ w'.cell? ⟨px, 1, none⟩ = some kx)
              (first
                | exact HS.out _ rfl
                | exact HS.out _ (Below.heap_alloc _ _ _ (by omega))
                | exact HS.out _ ((hgrow.block px (by simp; omega) (own_ne (by omega))).trans (Below.heap_alloc _ _ _ (by omega))))
              ((refine step_append_lies _ (by rfl) _ _ _ (by rfl) w1.heap.size 20 iT _ 1 16 Tryz.underlying80 hiT hzT hsT hyT rfl (by omega) (.slice (some ⟨g, 0, none⟩) u.length c) u.length (u.map fun i => cv.getD i .nilIface) (by rfl) ((HOW.out.alloc _).drew)
                  ⟨wc.heap.size, 0, none⟩ 1 1 [.iface T1 u1] (by rfl) (by rfl) (World.news_of_block (cs := #[.iface T1 u1]) (t := 20) (fr := (0, 0)) (heap_alloc_new wc _)) (by simp [Value.oneCell'])
                  (by omega) (by unfold maxLen; omega) (by omega) (by simp; omega) (wc.heap.size + 1) (by simp) ?_; intro g2 c2 w3 hown3 hgrow hat hlt))
            go_wp2_with fail
            refine ⟨⟨j + 1, u ++ [x], x, g2, c2, by go_num, by omega, HU2.out, by simp, ?_, .inr ⟨by omega, by simp, hx, HKX.out.symm⟩, by simp; omega, ?_, ?_⟩, by simp [intOf]; omega⟩
            · rw [List.map_append, List.length_append]
              simp only [List.map_cons, List.map_nil, List.length_cons, List.length_nil, HVX.out]
              exact hown3
            · exact fun k hk => (hgrow.block k (by simp; omega) (own_ne (by omega))).trans ((Below.heap_alloc _ _ _ (by omega)).trans (HK.out k hk))
            · exact (HB.out.alloc (by omega) _).drew.trans (below_of_grown_opt hgrow (fun b hb => by have e : g = b := own_eq hb; omega) (by simp; omega))
    · have ej : j = n := by omega
      have hsS := HR.out.size
      rw [List.take_of_length_le (by simp; omega)] at hu
      have HU := Lib.hid hu
      have HOW := Lib.hid hown
      clear hu hown hst hkeep hsS
      go_wp2_with fail
      go_ret
      rw [HU.out]
      exact ⟨_, rfl, own_low HOW.out hs1, ⟨g, c, rfl⟩, inB_of HR.out.size HR.out.lt, hbr⟩
end Go.Proofs.YtmjegeipnaalnaaGreatDoor

/- Groups as they lie: a row of rows, each a block of its own. -/
namespace Go.Proofs.YtmjegeipnaalnaaGreatDoor
open Go.RowKit Go.Sort

/-- The outer row's values are the groups' slices; each group is a row of its own. -/
structure Grps (w : World) (base go : Nat) (vv : Nat → Value) (G : List (List Nat)) (b c : Nat → Nat) (xs : List Value) : Prop where
  len : xs.length = G.length
  at_ : ∀ i (h : i < G.length), xs[i]? = some (.iface 80 (.slice (some ⟨b i, 0, none⟩) G[i].length (c i)))
  own : ∀ i (h : i < G.length), w.ownsRow base 20 1 (.slice (some ⟨b i, 0, none⟩) G[i].length (c i)) G[i].length (G[i].map vv)
  ne : ∀ i, i < G.length → b i ≠ go
  inj : ∀ i j, i < G.length → j < G.length → b i = b j → i = j

variable {w w3 : World} {base go go2 : Nat} {vv : Nat → Value} {G : List (List Nat)} {b c : Nat → Nat} {xs : List Value}

theorem Grps.nil : Grps w base go vv [] b c [] := ⟨rfl, fun _ h => absurd h (by simp), fun _ h => absurd h (by simp), fun _ h => absurd h (by simp), fun _ _ h => absurd h (by simp)⟩
theorem Grps.lt (h : Grps w base go vv G b c xs) (i : Nat) (hi : i < G.length) : base ≤ b i ∧ b i < w.heap.size := (h.own i hi).lt _ rfl
theorem Grps.keep (h : Grps w base go vv G b c xs) (hk : ∀ i, i < G.length → w3.heap[b i]? = w.heap[b i]?) : Grps w3 base go vv G b c xs :=
  ⟨h.len, h.at_, fun i hi => ownsRow_keep (h.own i hi) (fun k e => by have e2 : b i = k := own_eq e; rw [← e2]; exact hk i hi), h.ne, h.inj⟩

theorem Grps.low (h : Grps w base go vv G b c xs) {base' : Nat} (hb : base' ≤ base) : Grps w base' go vv G b c xs := ⟨h.len, h.at_, fun i hi => own_low (h.own i hi) hb, h.ne, h.inj⟩

theorem Grps.push (h : Grps w base go vv G b c xs) {x nb : Nat} (hk : ∀ i, i < G.length → w3.heap[b i]? = w.heap[b i]?) (hown : w3.ownsRow base 20 1 (.slice (some ⟨nb, 0, none⟩) 1 1) 1 [vv x]) (hng : nb ≠ go2) (hb : ∀ i, i < G.length → b i ≠ go2 ∧ b i ≠ nb) :
    Grps w3 base go2 vv (G ++ [[x]]) (fun i => if i = G.length then nb else b i) (fun i => if i = G.length then 1 else c i) (xs ++ [.iface 80 (.slice (some ⟨nb, 0, none⟩) 1 1)]) := by
  have hK := h.keep hk
  refine ⟨by simp [h.len], fun i hi => ?_, fun i hi => ?_, fun i hi => ?_, fun i j hi hj e => ?_⟩
  · rcases Nat.lt_or_ge i G.length with h1 | h1
    · rw [List.getElem?_append_left (by rw [h.len]; exact h1), h.at_ i h1]
      simp [List.getElem_append_left h1, Nat.ne_of_lt h1]
    · have : i = G.length := by simp at hi; omega
      subst this
      simp [h.len]
  · rcases Nat.lt_or_ge i G.length with h1 | h1
    · have := hK.own i h1
      simpa [List.getElem_append_left h1, Nat.ne_of_lt h1] using this
    · have : i = G.length := by simp at hi; omega
      subst this
      simpa using hown
  · rcases Nat.lt_or_ge i G.length with h1 | h1
    · simpa [Nat.ne_of_lt h1] using (hb i h1).1
    · have : i = G.length := by simp at hi; omega
      subst this
      simpa using hng
  · simp only [List.length_append, List.length_cons, List.length_nil] at hi hj
    by_cases h1 : i = G.length
    · by_cases h2 : j = G.length
      · omega
      · rw [if_pos h1, if_neg h2] at e
        exact absurd e.symm (hb j (by omega)).2
    · by_cases h2 : j = G.length
      · rw [if_neg h1, if_pos h2] at e
        exact absurd e (hb i (by omega)).2
      · rw [if_neg h1, if_neg h2] at e
        exact h.inj i j (by omega) (by omega) e

theorem last_set {α : Type} {G : List α} {L : Nat} (hL : G.length = L + 1) (a : α) : (G.dropLast ++ [a]).length = L + 1 ∧ ∀ i (h : i < (G.dropLast ++ [a]).length) (h2 : i < G.length), (G.dropLast ++ [a])[i] = if i = L then a else G[i] := by
  refine ⟨by simp [hL], fun i h h2 => ?_⟩
  by_cases e : i = L
  · subst e
    rw [if_pos rfl, List.getElem_append_right (by simp [hL])]
    simp [hL]
  · rw [if_neg e, List.getElem_append_left (by simp; omega), List.getElem_dropLast]
theorem last_at {G : List (List Nat)} {L : Nat} (hL : G.length = L + 1) : G.getLastD [] = G[L]'(by omega) := by
  have e : G.length - 1 = L := by omega
  rw [List.getLastD_eq_getLast?, List.getLast?_eq_getElem?, e, List.getElem?_eq_getElem (by omega)]
  rfl

theorem Grps.last (h : Grps w base go vv G b c xs) {L x nb c2 : Nat} (hL : G.length = L + 1) (hk : ∀ i, i < L → w3.heap[b i]? = w.heap[b i]?)
    (hown : w3.ownsRow base 20 1 (.slice (some ⟨nb, 0, none⟩) ((G[L]'(by omega)).length + 1) c2) ((G[L]'(by omega)).length + 1) ((G[L]'(by omega)).map vv ++ [vv x])) (hng : nb ≠ go) (hb : ∀ i, i < L → b i ≠ nb) :
    Grps w3 base go vv (G.dropLast ++ [G.getLastD [] ++ [x]]) (fun i => if i = L then nb else b i) (fun i => if i = L then c2 else c i) (xs.set L (.iface 80 (.slice (some ⟨nb, 0, none⟩) ((G[L]'(by omega)).length + 1) c2))) := by
  obtain ⟨hl, hat⟩ := last_set hL (G.getLastD [] ++ [x])
  have hla := last_at hL
  refine ⟨by rw [List.length_set, h.len, hL, hl], fun i hi => ?_, fun i hi => ?_, fun i hi => ?_, fun i j hi hj e => ?_⟩
  · rw [hat i hi (by omega)]
    by_cases e : i = L
    · subst e
      rw [if_pos rfl, if_pos rfl, if_pos rfl, hla]
      rw [List.getElem?_set_self (by rw [h.len]; omega)]
      simp
    · rw [if_neg e, if_neg e, if_neg e, List.getElem?_set_ne (fun e2 => e e2.symm)]
      exact h.at_ i (by omega)
  · rw [hat i hi (by omega)]
    by_cases e : i = L
    · subst e
      rw [if_pos rfl, if_pos rfl, if_pos rfl, hla]
      simpa using hown
    · rw [if_neg e, if_neg e, if_neg e]
      exact ownsRow_keep (h.own i (by omega)) (fun k e2 => by have e3 : b i = k := own_eq e2; rw [← e3]; exact hk i (by omega))
  · by_cases e : i = L
    · simpa [e] using hng
    · simpa [e] using h.ne i (by omega)
  · rw [hl] at hi hj
    by_cases h1 : i = L
    · by_cases h2 : j = L
      · omega
      · rw [if_pos h1, if_neg h2] at e
        exact absurd e.symm (hb j (by omega))
    · by_cases h2 : j = L
      · rw [if_neg h1, if_pos h2] at e
        exact absurd e (hb i (by omega))
      · rw [if_neg h1, if_neg h2] at e
        exact h.inj i j (by omega) (by omega) e

theorem own_cell {w : World} {base : Nat} {e : TypeId} {g n cap : Nat} {xs : List Value} (h : w.ownsRow base e 1 (.slice (some ⟨g, 0, none⟩) n cap) n xs) (j : Nat) (u : Value) (hj : xs[j]? = some u) : w.cell? ⟨g, j, none⟩ = some u := by
  have q := h.cells (g := g) rfl j u hj
  rwa [show (⟨g, 0, none⟩ : Addr).add j = ⟨g, j, none⟩ by unfold Addr.add; split <;> simp_all] at q
theorem own_frozen {w : World} {base : Nat} {e : TypeId} {g n cap : Nat} {xs : List Value} (h : w.ownsRow base e 1 (.slice (some ⟨g, 0, none⟩) n cap) n xs) (j : Nat) : w.frozen? ⟨g, j, none⟩ = false := by
  rcases h.2 with ⟨hv, _⟩ | ⟨g2, cap2, cur, hv, hb, hg, _⟩
  · cases hv
  · have e1 : g = g2 ∧ cap = cap2 := by simpa using hv
    obtain ⟨rfl, rfl⟩ := e1
    simp [World.frozen?, hg]
/-- A store into a row of one-cell values. -/
theorem own_set {w : World} {base : Nat} {e : TypeId} {g n cap L : Nat} {xs : List Value} {v : Value} (h : w.ownsRow base e 1 (.slice (some ⟨g, 0, none⟩) n cap) n xs) (hL : L < n) :
    (w.setCell ⟨g, L, none⟩ v).ownsRow base e 1 (.slice (some ⟨g, 0, none⟩) n cap) n (xs.set L v) := by
  refine ⟨by rw [List.length_set]; exact h.1, ?_⟩
  rcases h.2 with ⟨hv, h0⟩ | ⟨g2, cap2, cur, hv, hb, hg, hn, hcm, hcs, htk⟩
  · omega
  · have e1 : g = g2 ∧ cap = cap2 := by simpa using hv
    obtain ⟨rfl, rfl⟩ := e1
    refine .inr ⟨g, cap, cur.setIfInBounds L v, rfl, hb, heap_setCell_same w g L _ e v hg, hn, hcm, by simpa using hcs, ?_⟩
    rw [← htk, Array.toList_setIfInBounds, List.take_set]

/-- No group is greater than all together. -/
theorem grp_small (ne : Nat → Nat → Bool) (l : List Nat) : ∀ g ∈ (grpF ne l).1, g.length ≤ l.length := by
  intro g hg
  have h := (grp_law ne l).1
  obtain ⟨s, t, e⟩ := List.append_of_mem hg
  rw [e] at h
  rw [← h]
  simp
  omega
end Go.Proofs.YtmjegeipnaalnaaGreatDoor
