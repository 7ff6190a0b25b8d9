/- From Go's values to a value of the thin package: a list whose elements are told one by one, its slice with room. sort_by, group_by, unique_by, at the package's doors: what they give, as trees. A value of the package as an answer of the thin package, its way out of Go given. The thin package's sort_by, group_by and unique_by: the walks. -/
import Derived.Test.YtmjegeipnaalnaaGreatDoorGrFroA
import Derived.Test.YtmjegeipnaalnaaGreatDoorGrGrpBy
import Derived.Test.YtmjegeipnaalnaaGreatDoorGrGetP
import Derived.Test.YtmjegeipnaalnaaGreatDoorGrImplC

/- From Go's values to a value of the thin package: a list whose elements are told one by one, its slice with room. -/
namespace Go.Proofs.YtmjegeipnaalnaaGreatDoor
open Go.RowKit

/-- What the way out of Go gives for one Go value, in each later world. -/
def FromV (w0 : World) (v : JV) (x : Value) : Prop := ∀ w, Below w0.heap.size w0 w →
  Calls Tryz.prog 83 #[x] w fun e w' => ∃ c0 c1 c2 c3 c4 c5, e = .returned (.tuple #[.agg #[c0, c1, c2, c3, c4, c5], .bool true]) ∧ JRepS w' (fun b => w.heap.size ≤ b ∧ b < w'.heap.size) v [c0, c1, c2, c3, c4, c5] ∧ Below w.heap.size w w'
theorem from_v {w : World} {v : JV} {x : Value} (hp : PRep w 0 w.heap.size v x) (hg : Good v) (hf : Few 1002 v) (hs : Short v) : FromV w v x := fun W hW =>
  from_all v x W (PRep.mono (fun k _ hk => hW.block k hk) (Nat.le_refl _) hW.size v x hp) hg hf hs
theorem FromV.later {w W : World} {v : JV} {x : Value} (h : FromV w v x) (hW : Below w.heap.size w W) : FromV W v x := fun W2 h2 => h W2 (hW.trans (h2.mono hW.size))

set_option maxRecDepth 100000 in
set_option maxHeartbeats 8000000 in
theorem listFromQ (l : List JV) (b n m : Nat) (C : Array Value) (cs : List Value) (T : TypeId) (w : World) (ih : ∀ j (h : j < l.length) (h' : j < cs.length), FromV w l[j] cs[j]) (hb : b < w.heap.size) (hblk : w.heap[b]? = some (.cells C T (0, 0))) (hC : ∀ j (hj : j < cs.length), C[j]? = some cs[j]) (hlen : cs.length = l.length) (hn : l.length = n) (hn1 : n ≤ 1002) :
    Calls Tryz.prog 130 #[.slice (some ⟨b, 0, none⟩) n m] w fun e w' => ∃ v', e = .returned (.tuple #[.agg #[.int .i64 5, .int .i64 0, .string ⟨#[]⟩, v', .slice none 0 0, .slice none 0 0], .bool true]) ∧ SlOf n 104 (JCellsS w' (fun b => w.heap.size ≤ b ∧ b < w'.heap.size) l) v' ∧ Below w.heap.size w w' := by
  obtain ⟨hR, hO⟩ := two_new w (.cells #[.int .i64 0, .int .i64 0, .string ⟨#[]⟩, .slice none 0 0, .slice none 0 0, .slice none 0 0] 26) (.cells #[.int .i64 5, .int .i64 0, .string ⟨#[]⟩, .slice none 0 0, .slice none 0 0, .slice none 0 0] 26)
  have hB := ((Below.refl w.heap.size w).alloc (Nat.le_refl _) (.cells #[.int .i64 0, .int .i64 0, .string ⟨#[]⟩, .slice none 0 0, .slice none 0 0, .slice none 0 0] 26)).alloc (by simp) (.cells #[.int .i64 5, .int .i64 0, .string ⟨#[]⟩, .slice none 0 0, .slice none 0 0, .slice none 0 0] 26)
  have hsz : w.heap.size + 2 ≤ ((w.alloc (.cells #[.int .i64 0, .int .i64 0, .string ⟨#[]⟩, .slice none 0 0, .slice none 0 0, .slice none 0 0] 26)).alloc (.cells #[.int .i64 5, .int .i64 0, .string ⟨#[]⟩, .slice none 0 0, .slice none 0 0, .slice none 0 0] 26)).heap.size := by simp
  have HN := Lib.hid hn
  have HLEN := Lib.hid hlen
  have HI := Lib.hid ih
  have HBLK := Lib.hid hblk
  have HCC := Lib.hid hC
  clear hn hlen ih hblk hC
  go_enter Tryz.func130, Tryz.ntmps130
  go_upto_region 2 with (fail)
  generalize ((w.alloc (.cells #[.int .i64 0, .int .i64 0, .string ⟨#[]⟩, .slice none 0 0, .slice none 0 0, .slice none 0 0] 26)).alloc (.cells #[.int .i64 5, .int .i64 0, .string ⟨#[]⟩, .slice none 0 0, .slice none 0 0, .slice none 0 0] 26)) = w0 at *
  go_wp2_with fail
  go_loopw [12] (fun i wr => ∃ (j : Nat) (v' : Value) (xs : List Value), j ≤ n ∧ i = .int .i64 j ∧ wr.heap[w.heap.size]? = some (.cells #[.int .i64 0, .int .i64 0, .string ⟨#[]⟩, .slice none 0 0, .slice none 0 0, .slice none 0 0] 26) ∧ wr.heap[w.heap.size + 1]? = some (.cells #[.int .i64 5, .int .i64 0, .string ⟨#[]⟩, v', .slice none 0 0, .slice none 0 0] 26) ∧
    wr.ownsRow (w.heap.size + 2) 26 6 v' j xs ∧ JFlat wr (Beside (w.heap.size + 2) wr v') (l.take j) xs ∧ Below w.heap.size w wr ∧ w.heap.size + 2 ≤ wr.heap.size) (fun i _ => n - (intOf i).toNat)
  case atStart => exact ⟨0, .slice none 0 0, [], Nat.zero_le _, rfl, hR, hO, World.ownsRow_nil _ _ _ _, by simp [JFlat], hB, hsz⟩
  case round =>
    obtain ⟨j, v', xs, hj, rfl, hRr, hOr, hown, hfl, hbr, hszr⟩ := hrel
    obtain ⟨wo, rfl⟩ : ∃ wo, wo = wr := ⟨_, rfl⟩
    by_cases hjn : j < n
    · have hjl : j < l.length := by rw [HN.out]; exact hjn
      have hjc : j < cs.length := by rw [HLEN.out]; exact hjl
      have hcell : wo.cell? ⟨b, j, none⟩ = some cs[j] := by
        have q := kept_below hbr hb HBLK.out
        have q2 := HCC.out j hjc
        simp [World.cell?, q, q2]
      have C := Lib.hid (HI.out j hjl hjc wo hbr)
      have HT := Lib.hid (show l.take (j + 1) = l.take j ++ [l[j]] from List.take_succ_eq_append_getElem hjl)
      generalize l[j] = y at *
      generalize cs[j] = cv at *
      go_wp2_with fail
      refine C.out.mono ?_
      rintro e w1 ⟨d0, d1, d2, d3, d4, d5, rfl, hrep, hb1⟩
      obtain ⟨k1, h1, t1, A1, n1, m1, A2, n2, m2, A3, n3, m3, rfl, rfl, rfl, rfl, rfl, rfl⟩ := hrep.shape
      go_upto_region 8 with (fail)
      obtain ⟨iT, hi, hz, hs, hby⟩ : ∃ i, Tryz.prog.info? 26 = some i ∧ i.zero = some (.agg #[.int .i64 0, .int .i64 0, .string ⟨#[]⟩, .slice none 0 0, .slice none 0 0, .slice none 0 0]) ∧ i.size = 6 ∧ i.bytes = 104 := ⟨Tryz.t26, by kernel_rfl, by kernel_rfl, by kernel_rfl, by kernel_rfl⟩
      obtain ⟨Av, cv', rfl⟩ := slice_of_own hown
      have hXA := heap_alloc_new w1 (.cells #[.int .i64 k1, .int .i64 h1, .string t1, .slice A1 n1 m1, .slice A2 n2 m2, .slice A3 n3 m3] 26)
      have hbA := hb1.alloc (by have := hb1.size; omega) (.cells #[.int .i64 k1, .int .i64 h1, .string t1, .slice A1 n1 m1, .slice A2 n2 m2, .slice A3 n3 m3] 26)
      have hszA : (w1.alloc (.cells #[.int .i64 k1, .int .i64 h1, .string t1, .slice A1 n1 m1, .slice A2 n2 m2, .slice A3 n3 m3] 26)).heap.size = w1.heap.size + 1 := by simp
      have hkA : ∀ k, k < w1.heap.size → (w1.alloc (.cells #[.int .i64 k1, .int .i64 h1, .string t1, .slice A1 n1 m1, .slice A2 n2 m2, .slice A3 n3 m3] 26)).heap[k]? = w1.heap[k]? := fun k hk => heap_alloc_old w1 _ hk
      have hlt1 := hb1.size
      generalize w1.alloc (.cells #[.int .i64 k1, .int .i64 h1, .string t1, .slice A1 n1 m1, .slice A2 n2 m2, .slice A3 n3 m3] 26) = wA at *
      have hownA := (ownsRow_keep hown (fun k hk => hbA.block k (hown.lt k hk).2)).alloc (.cells #[.int .i64 k1, .int .i64 h1, .string t1, .slice A1 n1 m1, .slice A2 n2 m2, .slice A3 n3 m3] 26)
      have hnew := heap_alloc_new wA (.cells #[.int .i64 k1, .int .i64 h1, .string t1, .slice A1 n1 m1, .slice A2 n2 m2, .slice A3 n3 m3] 26)
      have hB2 := (hbr.trans (hbA.mono (by omega))).alloc (by omega) (.cells #[.int .i64 k1, .int .i64 h1, .string t1, .slice A1 n1 m1, .slice A2 n2 m2, .slice A3 n3 m3] 26)
      have hO1 := kept_below hbA (by omega) hOr
      have hR1 := kept_below hbA (by omega) hRr
      obtain ⟨x0, x1, x2, x3, x4, x5⟩ := box6 hO1
      obtain ⟨f0, f1, f2, f3, f4, f5, _⟩ := frozen7 hO1
      obtain ⟨y0, y1, y2, y3, y4, y5⟩ := box6 hXA
      have C1 := Lib.hid (six_cells hnew)
      rw [hszA] at C1
      have C2 := Lib.hid (six_one k1 h1 t1 A1 A2 A3 n1 m1 n2 m2 n3 m3)
      have C3 := Lib.hid (show j + 1 ≤ maxLen by unfold maxLen; omega)
      have C4 := Lib.hid (show (j + 1) * 104 ≤ 140737488355328 by omega)
      have C5 := Lib.hid (show w.heap.size + 2 ≤ (wA.alloc (.cells #[.int .i64 k1, .int .i64 h1, .string t1, .slice A1 n1 m1, .slice A2 n2 m2, .slice A3 n3 m3] 26)).heap.size by simp; omega)
      have HREP := Lib.hid hrep
      clear hrep
      go_wp2_with (first | (at_builtin; refine wpList_append_own_at _ rfl _ _ 23 rfl (w.heap.size + 2) 26 iT _ 6 104 Tryz.underlying23 hi hz hs hby rfl (by decide) _ _ _ rfl hownA ⟨w1.heap.size + 1, 0, none⟩ 1 1 [.int .i64 k1, .int .i64 h1, .string t1, .slice A1 n1 m1, .slice A2 n2 m2, .slice A3 n3 m3] rfl rfl C1.out C2.out C3.out C4.out C5.out ?_; intro v'' w2 h2 h3 _ h5; obtain ⟨Av2, cv2, rfl⟩ := slice_of_own h2; have hO2 := blk_kept (k := w.heap.size + 1) (by rw [heap_alloc_old wA _ (by omega)]; exact hO1) h3 (by intro e; have := (hown.lt _ e.symm).1; omega); obtain ⟨z0, z1, z2, z3, z4, z5⟩ := box6 hO2; obtain ⟨g0, g1, g2, g3, g4, g5, _⟩ := frozen7 hO2) | go_in)
      have hszB : (wA.alloc (.cells #[.int .i64 k1, .int .i64 h1, .string t1, .slice A1 n1 m1, .slice A2 n2 m2, .slice A3 n3 m3] 26)).heap.size = w1.heap.size + 2 := by simp [hszA]
      have hs2 : w1.heap.size + 2 ≤ w2.heap.size := by have := h3.size; omega
      have hne : ∀ k, Value.ownBlock (.slice Av j cv') = some k → w.heap.size + 2 ≤ k ∧ k < wo.heap.size := hown.lt
      have hstay : ∀ k, k ≠ w.heap.size + 1 → (w2.setCell ⟨w.heap.size + 1, 3, none⟩ (.slice Av2 (j + 1) cv2)).heap[k]? = w2.heap[k]? := fun k hk => Below.heap_setCell w2 ⟨w.heap.size + 1, 3, none⟩ _ k hk
      have hkA2 : ∀ k, k < w1.heap.size + 1 → Value.ownBlock (.slice Av j cv') ≠ some k → w2.heap[k]? = wA.heap[k]? := fun k hk hk2 => (h3.block k (by omega) (fun e => hk2 e.symm)).trans (heap_alloc_old wA _ (by omega))
      have hsC : (w2.setCell ⟨w.heap.size + 1, 3, none⟩ (.slice Av2 (j + 1) cv2)).heap.size = w2.heap.size := by simp [World.setCell]
      refine ⟨⟨j + 1, .slice Av2 (j + 1) cv2, _, by omega, by simp, ?_, row_set3 hO2, ownsRow_keep h2 (fun k hk => hstay k (by have := (h2.lt k hk).1; omega)), HT.out ▸ flat_grown (wo := wo) (w1 := w1) hown hfl hszr (fun k hk hk2 hk3 => (hstay k (by omega)).trans ((hkA2 k (by omega) hk2).trans (hbA.block k hk))) HREP.out hlt1 (fun k hk hk2 => (hstay k (by omega)).trans ((hkA2 k (by omega) (fun e => by have := (hne k e).2; omega)).trans (hkA k hk2))) (by rw [hsC]; omega) ?_, below_set (hB2.trans (below_of_grown_opt h3 (fun b hb => by have := (hne b hb).1; omega) (by omega))) (by omega), by rw [hsC]; omega⟩, ?gn⟩
      case gn => show n - ((j : Int) + 1).toNat < n - (j : Int).toNat; omega
      · rw [hstay _ (by omega)]
        exact (hkA2 _ (by omega) (fun e => by have := (hne _ e).1; omega)).trans hR1
      · rcases h5 with h | h
        · exact .inl h
        · exact .inr ⟨_, h, by omega⟩
    · have hjn' : j = n := by omega
      subst hjn'
      rw [List.take_of_length_le (by have := HN.out; omega)] at hfl
      have HSL := Lib.hid (flat_slof (S := fun b => w.heap.size + 2 ≤ b ∧ b < wo.heap.size) hown hfl HN.out (by omega) (fun b h1 h2 => ⟨h1, h2⟩))
      obtain ⟨Av, cv', rfl⟩ := slice_of_own hown
      obtain ⟨x0, x1, x2, x3, x4, x5⟩ := box6 hOr
      obtain ⟨y0, y1, y2, y3, y4, y5⟩ := box6 hRr
      obtain ⟨f0, f1, f2, f3, f4, f5, _⟩ := frozen7 hRr
      clear hfl
      go_wp2_with fail
      refine bodyPost_ret (v := .tuple #[.agg #[.int .i64 5, .int .i64 0, .string ⟨#[]⟩, .slice Av j cv', .slice none 0 0, .slice none 0 0], .bool true]) (by simp [results, Tryz.results130, go_sem, *]) rfl ⟨_, rfl, ?_, below_set6 hbr (Nat.le_refl _) _ _ _ _ _ _⟩
      exact HSL.out.imp (JCellsS.mono (fun b hb => set6_block _ _ _ _ _ _ _ _ b (by omega)) (fun b hb => ⟨by omega, by rw [set6_size]; exact hb.2⟩) l)

/-- A list of Go's, its slice with room. -/
theorem from_list (l : List JV) (b n m : Nat) (C : Array Value) (cs : List Value) (T : TypeId) (w : World) (ih : ∀ j (h : j < l.length) (h' : j < cs.length), FromV w l[j] cs[j]) (hb : b < w.heap.size) (hblk : w.heap[b]? = some (.cells C T (0, 0))) (hC : ∀ j (hj : j < cs.length), C[j]? = some cs[j]) (hlen : cs.length = l.length) (hn : l.length = n) (hn1 : n ≤ 1002) :
    FromV w (.mk 5 0 ⟨#[]⟩ l [] []) (.iface 80 (.slice (some ⟨b, 0, none⟩) n m)) := fun W hW => by
  subst hn
  refine (fromGo_lst l _ l.length m W fun V hV => listFromQ l b l.length m C cs T V (fun j h h' => (ih j h h').later (hW.trans (hV.mono hW.size))) (by have := hW.size; have := hV.size; omega) ((hV.block b (by have := hW.size; omega)).trans ((hW.block b hb).trans hblk)) hC hlen rfl hn1).mono ?_
  rintro e w' ⟨v', rfl, hS, hb⟩
  refine ⟨_, _, _, _, _, _, rfl, ?_, hb⟩
  unfold JRepS
  exact ⟨⟨by decide, by decide⟩, ⟨by decide, by decide⟩, by decide, _, _, _, rfl, hS, ⟨none, 0, rfl, Nat.le_refl _, by simp, .inl rfl⟩, ⟨none, 0, rfl, Nat.le_refl _, by simp, .inl rfl⟩⟩
end Go.Proofs.YtmjegeipnaalnaaGreatDoor

/- sort_by, group_by, unique_by, at the package's doors: what they give, as trees. -/
namespace Go.Proofs.YtmjegeipnaalnaaGreatDoor
open Go.RowKit Go.Sort

/-- The value, and the key, of a place. -/
def ofL (l : List JV) (i : Nat) : JV := l.getD i nullT
/-- What sort_by gives. -/
def sortT (l k : List JV) : List Nat := (sortA (ofL k) l.length).toList
/-- What group_by gives. -/
def grpT (l k : List JV) : List (List Nat) := (grpF (keyNe (ofL k)) (sortT l k)).1
/-- What unique_by gives. -/
def unqT (l k : List JV) : List Nat := (unqF (keyNe (ofL k)) (sortT l k)).1

/-- What a door of the package promises at two lists of one length. -/
def DoorC (D : Nat) (l k : List JV) (R : JV) : Prop := ∀ (W : World) (r1 r2 : Value), GRep W 0 W.heap.size (listT l) r1 → GRep W 0 W.heap.size (listT k) r2 →
  Calls Tryz.prog D #[r1, r2] W fun e w' => ∃ u, e = .returned u ∧ (∃ i, Shp u i) ∧ FromV w' R u ∧ Below W.heap.size W w'

theorem getD_at {α : Type} {l : List α} {i : Nat} (h : i < l.length) (z : α) : l.getD i z = l[i] := by
  rw [List.getD_eq_getElem?_getD, List.getElem?_eq_getElem h]; rfl

section
variable {l : List JV} {W w' : World} {cv : List Value}
theorem val_from (hv : GVals W 0 W.heap.size l cv) (gl : GoodL l) (fl : FewL 1002 l) (sl : ShortL l) (hb : Below W.heap.size W w') (i : Nat) (hi : i < l.length) : FromV w' (ofL l i) (cv.getD i .nilIface) := by
  have hc : i < cv.length := by rw [hv.length]; exact hi
  unfold ofL
  rw [getD_at hi, getD_at hc]
  have hg := (hv.get i hi hc).below hb hb.size
  have gi := gl.get _ (List.getElem_mem hi)
  exact from_v (GRep.toP _ _ gi hg) gi (fl.get _ (List.getElem_mem hi)) (sl.get _ (List.getElem_mem hi))
theorem vals_any (hv : GVals W 0 W.heap.size l cv) : ∀ j, j < l.length → AnyV (cv.getD j .nilIface) := fun j hj => by
  have hc : j < cv.length := by rw [hv.length]; exact hj
  rw [getD_at hc]
  exact (hv.get j hj hc).shape
/-- A row of values, as a list. -/
theorem row_from {g n c : Nat} {u : List Nat} (hv : GVals W 0 W.heap.size l cv) (gl : GoodL l) (fl : FewL 1002 l) (sl : ShortL l) (hb : Below W.heap.size W w') (hu : ∀ i ∈ u, i < l.length) (hn : u.length = n) (hn1 : n ≤ 1002)
    {C : Array Value} {T : TypeId} (hblk : w'.heap[g]? = some (.cells C T (0, 0))) (hC : ∀ j (h : j < u.length), C[j]? = some (cv.getD u[j] .nilIface)) :
    FromV w' (listT (u.map (ofL l))) (.iface 80 (.slice (some ⟨g, 0, none⟩) n c)) := by
  refine from_list (u.map (ofL l)) g n c C (u.map fun i => cv.getD i .nilIface) T w' (fun j h h' => ?_) (Array.getElem?_eq_some_iff.1 hblk).1 hblk (fun j hj => ?_) (by simp) (by simpa using hn) hn1
  · rw [List.getElem_map, List.getElem_map]
    exact val_from hv gl fl sl hb _ (hu _ (List.getElem_mem _))
  · rw [List.getElem_map]
    exact hC j (by simpa using hj)
/-- A row that a call owns, as a list. -/
theorem own_from {base g n c : Nat} {u : List Nat} (hv : GVals W 0 W.heap.size l cv) (gl : GoodL l) (fl : FewL 1002 l) (sl : ShortL l) (hb : Below W.heap.size W w') (hu : ∀ i ∈ u, i < l.length) (hn : u.length = n) (hn1 : n ≤ 1002)
    (hown : w'.ownsRow base 20 1 (.slice (some ⟨g, 0, none⟩) n c) n (u.map fun i => cv.getD i .nilIface)) : FromV w' (listT (u.map (ofL l))) (.iface 80 (.slice (some ⟨g, 0, none⟩) n c)) := by
  rcases hown.2 with ⟨hv2, _⟩ | ⟨g2, cap2, cur, hv2, hb2, hg, hnc, hcm, hcs, htk⟩
  · cases hv2
  · have e1 : g = g2 ∧ c = cap2 := by simpa using hv2
    obtain ⟨rfl, rfl⟩ := e1
    refine row_from hv gl fl sl hb hu hn hn1 hg (fun j h => ?_)
    have h2 : (cur.toList.take (n * 1))[j]? = some (cv.getD u[j] .nilIface) := by rw [htk]; simp [h]
    rw [List.getElem?_take] at h2
    split at h2
    · simpa using h2
    · cases h2
end

theorem few_list {N : Nat} {l : List JV} (h : Few N (listT l)) : l.length ≤ N ∧ FewL N l := by
  unfold listT Few at h
  exact ⟨h.1, h.2.2.2.1⟩
theorem good_of_list {l : List JV} (h : Good (listT l)) : GoodL l := by
  unfold listT Good at h
  exact h.2.2.2.1
theorem short_of_list {l : List JV} (h : Short (listT l)) : ShortL l := by
  unfold listT Short at h
  exact h.2.2.1

/-- What is asked of the two lists. -/
structure ByOk (l k : List JV) : Prop where
  len : k.length = l.length
  small : l.length ≤ 1000
  gl : GoodL l
  gk : GoodL k
  fl : FewL 1002 l
  sl : ShortL l
  sk : ShortL k

set_option maxRecDepth 100000 in
theorem door86 (l r : Value) (w : World) (R : Value → World → Prop) (h : Calls Tryz.prog 144 #[.string ⟨#[115, 111, 114, 116, 95, 98, 121]⟩, l, r] w fun e w' => ∃ v, e = .returned v ∧ R v w') :
    Calls Tryz.prog 86 #[l, r] w fun e w' => ∃ v, e = .returned v ∧ R v w' := by
  have C := Lib.hid h
  clear h
  go_enter Tryz.func86, Tryz.ntmps86
  go_wp2_with fail
  refine C.out.mono ?_
  rintro e w1 ⟨v, rfl, hr⟩
  go_wp2_with fail
  go_ret
  exact ⟨_, rfl, hr⟩
set_option maxRecDepth 100000 in
theorem door46 (l r : Value) (w : World) (R : Value → World → Prop) (h : Calls Tryz.prog 86 #[l, r] w fun e w' => ∃ v, e = .returned v ∧ R v w') :
    Calls Tryz.prog 46 #[l, r] w fun e w' => ∃ v, e = .returned v ∧ R v w' := by
  have C := Lib.hid h
  clear h
  go_enter Tryz.func46, Tryz.ntmps46
  go_wp2_with fail
  refine C.out.mono ?_
  rintro e w1 ⟨v, rfl, hr⟩
  go_wp2_with fail
  go_ret
  exact ⟨_, rfl, hr⟩
set_option maxRecDepth 100000 in
theorem door87 (l r : Value) (w : World) (R : Value → World → Prop) (h : Calls Tryz.prog 145 #[.string ⟨#[117, 110, 105, 113, 117, 101, 95, 98, 121]⟩, l, r] w fun e w' => ∃ v, e = .returned v ∧ R v w') :
    Calls Tryz.prog 87 #[l, r] w fun e w' => ∃ v, e = .returned v ∧ R v w' := by
  have C := Lib.hid h
  clear h
  go_enter Tryz.func87, Tryz.ntmps87
  go_wp2_with fail
  refine C.out.mono ?_
  rintro e w1 ⟨v, rfl, hr⟩
  go_wp2_with fail
  go_ret
  exact ⟨_, rfl, hr⟩
set_option maxRecDepth 100000 in
theorem door47 (l r : Value) (w : World) (R : Value → World → Prop) (h : Calls Tryz.prog 87 #[l, r] w fun e w' => ∃ v, e = .returned v ∧ R v w') :
    Calls Tryz.prog 47 #[l, r] w fun e w' => ∃ v, e = .returned v ∧ R v w' := by
  have C := Lib.hid h
  clear h
  go_enter Tryz.func47, Tryz.ntmps47
  go_wp2_with fail
  refine C.out.mono ?_
  rintro e w1 ⟨v, rfl, hr⟩
  go_wp2_with fail
  go_ret
  exact ⟨_, rfl, hr⟩
set_option maxRecDepth 100000 in
theorem door45 (l r : Value) (w : World) (R : Value → World → Prop) (h : Calls Tryz.prog 85 #[l, r] w fun e w' => ∃ v, e = .returned v ∧ R v w') :
    Calls Tryz.prog 45 #[l, r] w fun e w' => ∃ v, e = .returned v ∧ R v w' := by
  have C := Lib.hid h
  clear h
  go_enter Tryz.func45, Tryz.ntmps45
  go_wp2_with fail
  refine C.out.mono ?_
  rintro e w1 ⟨v, rfl, hr⟩
  go_wp2_with fail
  go_ret
  exact ⟨_, rfl, hr⟩

theorem sort_door {l k : List JV} (h : ByOk l k) : DoorC 46 l k (listT ((sortT l k).map (ofL l))) := by
  intro W r1 r2 h1 h2
  obtain ⟨b, cv, T, hb, rfl, hm, hc, hv⟩ := grep_list h1
  obtain ⟨b', ck, T', hb', rfl, hm', hc', hv'⟩ := grep_list h2
  rw [h.len]
  refine door46 _ _ W _ (door86 _ _ W _ ((sortBy_walk ⟨#[115, 111, 114, 116, 95, 98, 121]⟩ l.length b b' k cv ck T T' W h.len hv.length (by have := h.small; omega) hb hb' (vals_any hv) hc hc' hv' h.gk h.sk).mono ?_))
  rintro e w' ⟨g, rfl, hg1, hg2, hblk, hin, hbw⟩
  exact ⟨_, rfl, ⟨_, .lst _ _ _⟩, row_from (u := sortT l k) (C := ((sortT l k).map fun i => cv.getD i .nilIface).toArray) hv h.gl h.fl h.sl hbw hin.2 hin.1 (by have := h.small; omega) hblk (fun j hj => by
    rw [List.getElem?_toArray, List.getElem?_map, List.getElem?_eq_getElem hj]; rfl), hbw⟩

theorem unq_mem {l k : List JV} (hin : InB l.length (sortT l k)) : (∀ i ∈ unqT l k, i < l.length) ∧ (unqT l k).length ≤ l.length := by
  obtain ⟨h1, h2, h3, _⟩ := grp_law (keyNe (ofL k)) (sortT l k)
  have hmem : ∀ g ∈ grpT l k, ∀ i ∈ g, i < l.length := fun g hg i hi => hin.2 i (by rw [← h1]; exact List.mem_flatten.2 ⟨g, hg, hi⟩)
  have hlen : ∀ G : List (List Nat), (∀ g ∈ G, g ≠ []) → G.length ≤ G.flatten.length := by
    intro G
    induction G with
    | nil => intro _; simp
    | cons a r ih =>
      intro h
      have h4 := ih (fun g hg => h g (by simp [hg]))
      have h5 : 0 < a.length := List.length_pos_iff.2 (h a (by simp))
      simp only [List.flatten_cons, List.length_append, List.length_cons]
      omega
  constructor
  · intro i hi
    unfold unqT at hi
    rw [← h3] at hi
    obtain ⟨g, hg, rfl⟩ := List.mem_map.1 hi
    have hne := h2 g hg
    cases g with
    | nil => exact absurd rfl hne
    | cons a r => exact hmem _ hg _ (by simp)
  · have h4 := hlen _ h2
    rw [h1, hin.1] at h4
    unfold unqT
    rw [← h3, List.length_map]
    exact h4
theorem grp_mem {l k : List JV} (hin : InB l.length (sortT l k)) : (∀ g ∈ grpT l k, (∀ i ∈ g, i < l.length) ∧ g.length ≤ l.length) ∧ (grpT l k).length ≤ l.length := by
  obtain ⟨h1, h2, h3, _⟩ := grp_law (keyNe (ofL k)) (sortT l k)
  refine ⟨fun g hg => ⟨fun i hi => hin.2 i (by rw [← h1]; exact List.mem_flatten.2 ⟨g, hg, hi⟩), ?_⟩, ?_⟩
  · have := grp_small (keyNe (ofL k)) (sortT l k) g hg
    rw [hin.1] at this
    exact this
  · have := (unq_mem hin).2
    unfold unqT at this
    rw [← h3, List.length_map] at this
    exact this

theorem unq_door {l k : List JV} (h : ByOk l k) : DoorC 47 l k (listT ((unqT l k).map (ofL l))) := by
  intro W r1 r2 h1 h2
  obtain ⟨b, cv, T, hb, rfl, hm, hc, hv⟩ := grep_list h1
  obtain ⟨b', ck, T', hb', rfl, hm', hc', hv'⟩ := grep_list h2
  rw [h.len]
  refine door47 _ _ W _ (door87 _ _ W _ ((uniqBy_walk ⟨#[117, 110, 105, 113, 117, 101, 95, 98, 121]⟩ l.length b b' k cv ck T T' W h.len hv.length (by have := h.small; omega) hb hb' (vals_any hv) hc hc' hv' h.gk h.sk).mono ?_))
  rintro e w' ⟨v, rfl, hown, ⟨g, c, rfl⟩, hin, hbw⟩
  have hm := unq_mem (l := l) (k := k) hin
  exact ⟨_, rfl, ⟨_, .lst _ _ _⟩, own_from (u := unqT l k) hv h.gl h.fl h.sl hbw hm.1 rfl (Nat.le_trans hm.2 (by have := h.small; omega)) hown, hbw⟩

theorem grp_door {l k : List JV} (h : ByOk l k) : DoorC 45 l k (listT ((grpT l k).map fun g => listT (g.map (ofL l)))) := by
  intro W r1 r2 h1 h2
  obtain ⟨b, cv, T, hb, rfl, hm, hc, hv⟩ := grep_list h1
  obtain ⟨b', ck, T', hb', rfl, hm', hc', hv'⟩ := grep_list h2
  rw [h.len]
  refine door45 _ _ W _ ((grpBy_walk l.length b b' k cv ck T T' W h.len hv.length (by have := h.small; omega) hb hb' (vals_any hv) hc hc' hv' h.gk h.sk).mono ?_)
  rintro e w' ⟨g, c, bb, cc, xs, rfl, hown, hgr, hin, hbw⟩
  have hm := grp_mem (l := l) (k := k) hin
  refine ⟨_, rfl, ⟨_, .lst _ _ _⟩, ?_, hbw⟩
  change w'.ownsRow W.heap.size 20 1 (.slice (some ⟨g, 0, none⟩) (grpT l k).length c) (grpT l k).length xs at hown
  change Grps w' W.heap.size g _ (grpT l k) bb cc xs at hgr
  rcases hown.2 with ⟨hv2, _⟩ | ⟨g2, cap2, cur, hv2, hb2, hg, hnc, hcm, hcs, htk⟩
  · cases hv2
  · have e1 : g = g2 ∧ c = cap2 := by simpa using hv2
    obtain ⟨rfl, rfl⟩ := e1
    refine from_list ((grpT l k).map fun g => listT (g.map (ofL l))) g (grpT l k).length c cur xs 20 w' (fun j hj hj2 => ?_) (Array.getElem?_eq_some_iff.1 hg).1 hg (fun j hj => ?_) (by rw [List.length_map]; exact hgr.len) (by simp) (show (grpT l k).length ≤ 1002 from by have := h.small; have := hm.2; omega)
    · have hj3 : j < (grpT l k).length := by simpa using hj
      have hat := hgr.at_ j hj3
      rw [List.getElem?_eq_getElem hj2] at hat
      rw [Option.some.inj hat, List.getElem_map]
      have hgm := hm.1 _ (List.getElem_mem hj3)
      exact own_from hv h.gl h.fl h.sl hbw hgm.1 rfl (Nat.le_trans hgm.2 (by have := h.small; omega)) (hgr.own j hj3)
    · have h2 : (cur.toList.take ((grpT l k).length * 1))[j]? = some xs[j] := by rw [htk]; exact List.getElem?_eq_getElem hj
      rw [List.getElem?_take] at h2
      split at h2
      · simpa using h2
      · cases h2
end Go.Proofs.YtmjegeipnaalnaaGreatDoor

/- A value of the package as an answer of the thin package, its way out of Go given. -/
namespace Go.Proofs.YtmjegeipnaalnaaGreatDoor
open Go.RowKit

set_option maxRecDepth 100000 in
set_option maxHeartbeats 2000000 in
theorem result_valQ (v : JV) (x : Value) (w : World) (hv : FromV w v x) (i : Nat) (hshp : Shp x i) :
    Calls Tryz.prog 42 #[x] w fun e w' => ∃ c0 c1 c2 c3 c4 c5, e = .returned (.agg #[c0, c1, c2, c3, c4, c5, .int .i64 0]) ∧ JRepS w' (fun b => w.heap.size ≤ b ∧ b < w'.heap.size) v [c0, c1, c2, c3, c4, c5] ∧ Below w.heap.size w w' := by
  have hX := heap_alloc_new w (.cells #[.int .i64 0, .int .i64 0, .string ⟨#[]⟩, .slice none 0 0, .slice none 0 0, .slice none 0 0, .int .i64 0] 34)
  have hB := (Below.refl w.heap.size w).alloc (Nat.le_refl _) (.cells #[.int .i64 0, .int .i64 0, .string ⟨#[]⟩, .slice none 0 0, .slice none 0 0, .slice none 0 0, .int .i64 0] 34)
  have hszA : (w.alloc (.cells #[.int .i64 0, .int .i64 0, .string ⟨#[]⟩, .slice none 0 0, .slice none 0 0, .slice none 0 0, .int .i64 0] 34)).heap.size = w.heap.size + 1 := by simp
  have C := Lib.hid hv
  have herr := fun W => as_87 hshp W
  clear hv hshp
  go_enter Tryz.func42, Tryz.ntmps42
  go_upto_region 1 with (fail)
  generalize w.alloc (.cells #[.int .i64 0, .int .i64 0, .string ⟨#[]⟩, .slice none 0 0, .slice none 0 0, .slice none 0 0, .int .i64 0] 34) = w1 at *
  go_wp2_with fail
  refine (C.out w1 hB).mono ?_
  rintro e w2 ⟨c0, c1, c2, c3, c4, c5, rfl, hrep, hb⟩
  obtain ⟨k1, h1, t1, A1, n1, m1, A2, n2, m2, A3, n3, m3, rfl, rfl, rfl, rfl, rfl, rfl⟩ := hrep.shape
  have hlt := hb.size
  replace hX := kept_below hb (by omega) hX
  replace hB := hB.trans (hb.mono (by omega))
  have hB2 := hB.alloc (by omega) (.cells #[.int .i64 k1, .int .i64 h1, .string t1, .slice A1 n1 m1, .slice A2 n2 m2, .slice A3 n3 m3] 26)
  replace hX := (heap_alloc_old w2 (.cells #[.int .i64 k1, .int .i64 h1, .string t1, .slice A1 n1 m1, .slice A2 n2 m2, .slice A3 n3 m3] 26) (by omega)).trans hX
  have hY := heap_alloc_new w2 (.cells #[.int .i64 k1, .int .i64 h1, .string t1, .slice A1 n1 m1, .slice A2 n2 m2, .slice A3 n3 m3] 26)
  have hsz3 : (w2.alloc (.cells #[.int .i64 k1, .int .i64 h1, .string t1, .slice A1 n1 m1, .slice A2 n2 m2, .slice A3 n3 m3] 26)).heap.size = w2.heap.size + 1 := by simp
  have HR := Lib.hid (JRepS.mono (w' := w2.alloc (.cells #[.int .i64 k1, .int .i64 h1, .string t1, .slice A1 n1 m1, .slice A2 n2 m2, .slice A3 n3 m3] 26)) (S' := fun b => w1.heap.size ≤ b ∧ b < w2.heap.size) (fun b hb => heap_alloc_old w2 _ hb.2) (fun b hb => hb) v _ hrep)
  clear hrep hb C herr hB
  go_upto_region 5 with (fail)
  generalize w2.alloc (.cells #[.int .i64 k1, .int .i64 h1, .string t1, .slice A1 n1 m1, .slice A2 n2 m2, .slice A3 n3 m3] 26) = w3 at *
  obtain ⟨x0, x1, x2, x3, x4, x5, x6⟩ := box7 hX
  obtain ⟨f0, f1, f2, f3, f4, f5, f6⟩ := frozen7 hX
  obtain ⟨y0, y1, y2, y3, y4, y5⟩ := box6 hY
  have HB := Lib.hid (below_set7 hB2 (Nat.le_refl _) (.int .i64 k1) (.int .i64 h1) (.string t1) (.slice A1 n1 m1) (.slice A2 n2 m2) (.slice A3 n3 m3) (.int .i64 0))
  clear hB2 hX hY
  go_wp2
  refine bodyPost_ret (v := .agg #[.int .i64 k1, .int .i64 h1, .string t1, .slice A1 n1 m1, .slice A2 n2 m2, .slice A3 n3 m3, .int .i64 0]) (by simp [results, Tryz.results42, go_sem, *]) rfl ⟨_, _, _, _, _, _, rfl, ?_, HB.out⟩
  exact JRepS.mono (fun b hb => set7_block _ _ _ _ _ _ _ _ _ b (by omega)) (fun b hb => ⟨by omega, by rw [set7_size]; omega⟩) v _ HR.out
end Go.Proofs.YtmjegeipnaalnaaGreatDoor

/- The thin package's sort_by, group_by and unique_by: the walks. -/
namespace Go.Proofs.YtmjegeipnaalnaaGreatDoor
open Go.RowKit

/-- An answer of the thin package: a value, and no error. -/
def ByR (R : JV) (lo : Nat) (e : Ending) (w' : World) : Prop :=
  ∃ c0 c1 c2 c3 c4 c5, e = .returned (.agg #[c0, c1, c2, c3, c4, c5, .int .i64 0]) ∧ JRepS w' (fun b => lo ≤ b ∧ b < w'.heap.size) R [c0, c1, c2, c3, c4, c5]

set_option maxRecDepth 100000 in
set_option maxHeartbeats 8000000 in
theorem GroupBy_walk (l k : List JV) (R : JV) (hD : DoorC 45 l k R) (gl : GoodL l) (gk : GoodL k) (vx vy : Value) (w : World) (hx : JVal w w.heap.size (listT l) vx) (hy : JVal w w.heap.size (listT k) vy) :
    Calls Tryz.prog 14 #[vx, vy] w fun e w' => ByR R w.heap.size e w' ∧ Below w.heap.size w w' := by
  have HX := Lib.hid (fun W vx a => toGo_all (listT l) vx W a (good_list' gl))
  have HY := Lib.hid (fun W vy a => toGo_all (listT k) vy W a (good_list' gk))
  have HD := Lib.hid hD
  clear hD gl gk
  obtain ⟨a0, a1, a2, ex, _⟩ := hx.laid
  obtain ⟨b0, b1, b2, ey, _⟩ := hy.laid
  subst ex
  subst ey
  obtain ⟨hA, hB, hC⟩ := three_new' w (.cells #[.int .i64 5, .int .i64 0, .string ⟨#[]⟩, a0, a1, a2] 26) (.cells #[.int .i64 5, .int .i64 0, .string ⟨#[]⟩, b0, b1, b2] 26) (.cells #[.int .i64 0, .int .i64 0, .string ⟨#[]⟩, .slice none 0 0, .slice none 0 0, .slice none 0 0, .int .i64 0] 34)
  have hw := (((Below.refl w.heap.size w).alloc (Nat.le_refl _) (.cells #[.int .i64 5, .int .i64 0, .string ⟨#[]⟩, a0, a1, a2] 26)).alloc (by simp) (.cells #[.int .i64 5, .int .i64 0, .string ⟨#[]⟩, b0, b1, b2] 26)).alloc (by simp; omega) (.cells #[.int .i64 0, .int .i64 0, .string ⟨#[]⟩, .slice none 0 0, .slice none 0 0, .slice none 0 0, .int .i64 0] 34)
  have hsz : w.heap.size + 2 < (((w.alloc (.cells #[.int .i64 5, .int .i64 0, .string ⟨#[]⟩, a0, a1, a2] 26)).alloc (.cells #[.int .i64 5, .int .i64 0, .string ⟨#[]⟩, b0, b1, b2] 26)).alloc (.cells #[.int .i64 0, .int .i64 0, .string ⟨#[]⟩, .slice none 0 0, .slice none 0 0, .slice none 0 0, .int .i64 0] 34)).heap.size := by simp
  go_enter Tryz.func14, Tryz.ntmps14
  go_upto_region 1 with (fail)
  generalize (((w.alloc (.cells #[.int .i64 5, .int .i64 0, .string ⟨#[]⟩, a0, a1, a2] 26)).alloc (.cells #[.int .i64 5, .int .i64 0, .string ⟨#[]⟩, b0, b1, b2] 26)).alloc (.cells #[.int .i64 0, .int .i64 0, .string ⟨#[]⟩, .slice none 0 0, .slice none 0 0, .slice none 0 0, .int .i64 0] 34)) = w1 at *
  obtain ⟨p0, p1, p2, p3, p4, p5⟩ := box6 hA
  go_wp2_with fail
  refine (HX.out w1 _ (hx.below hw (by omega))).mono ?_
  rintro e w2 ⟨r1, rfl, hg1, hb⟩
  replace hB := kept_below hb (by omega) hB
  replace hC := kept_below hb (by omega) hC
  replace hw := hw.trans (hb.mono (by omega))
  replace hsz : w.heap.size + 2 < w2.heap.size := by have := hb.size; omega
  clear hb p0 p1 p2 p3 p4 p5 HX hA
  obtain ⟨q0, q1, q2, q3, q4, q5⟩ := box6 hB
  go_wp2_with fail
  refine (HY.out w2 _ (hy.below hw (by omega))).mono ?_
  rintro e w3 ⟨r2, rfl, hg2, hb⟩
  replace hC := kept_below hb (by omega) hC
  replace hw := hw.trans (hb.mono (by omega))
  have hg1' : GRep w3 0 w3.heap.size (listT l) r1 := GRep.mono (fun k _ hk2 => hb.block k hk2) (Nat.zero_le _) hb.size _ _ hg1
  have hg2' : GRep w3 0 w3.heap.size (listT k) r2 := GRep.mono (fun _ _ _ => rfl) (Nat.zero_le _) (Nat.le_refl _) _ _ hg2
  replace hsz : w.heap.size + 2 < w3.heap.size := by have := hb.size; omega
  have C3 := Lib.hid (HD.out w3 r1 r2 hg1' hg2')
  clear hb q0 q1 q2 q3 q4 q5 HY hB hg1 hg2 hg1' hg2' hx hy HD
  go_wp2_with fail
  refine C3.out.mono ?_
  rintro e w4 ⟨u, rfl, ⟨i, hi⟩, hf, hb⟩
  replace hC := kept_below hb (by omega) hC
  replace hw := hw.trans (hb.mono (by omega))
  replace hsz : w.heap.size + 2 < w4.heap.size := by have := hb.size; omega
  have C4 := Lib.hid (result_valQ R u w4 hf i hi)
  clear hb C3 hf hi
  go_wp2_with fail
  refine C4.out.mono ?_
  rintro e w6 ⟨c0, c1, c2, c3, c4, c5, rfl, hrep, hb⟩
  obtain ⟨k1, h1, t1, A1, n1, m1, A2, n2, m2, A3, n3, m3, rfl, rfl, rfl, rfl, rfl, rfl⟩ := hrep.shape
  have hsz5 := hsz
  replace hC := kept_below hb (by omega) hC
  replace hw := hw.trans (hb.mono (by omega))
  replace hsz : w.heap.size + 2 < w6.heap.size := by have := hb.size; omega
  have HR := Lib.hid hrep
  clear hb hrep C4
  obtain ⟨x0, x1, x2, x3, x4, x5, x6⟩ := box7 hC
  obtain ⟨f0, f1, f2, f3, f4, f5, f6⟩ := frozen7 hC
  have HB := Lib.hid (below_set7 hw (Nat.le_add_right _ 2) (.int .i64 k1) (.int .i64 h1) (.string t1) (.slice A1 n1 m1) (.slice A2 n2 m2) (.slice A3 n3 m3) (.int .i64 0))
  clear hw

  go_wp2
  refine bodyPost_ret (v := .agg #[.int .i64 k1, .int .i64 h1, .string t1, .slice A1 n1 m1, .slice A2 n2 m2, .slice A3 n3 m3, .int .i64 0]) (by simp [results, Tryz.results14, go_sem, *]) rfl ⟨⟨_, _, _, _, _, _, rfl, ?_⟩, HB.out⟩
  exact JRepS.mono (fun b hb => set7_block _ _ _ _ _ _ _ _ _ b (by omega)) (fun b hb => ⟨by omega, by rw [set7_size]; omega⟩) R _ HR.out

set_option maxRecDepth 100000 in
set_option maxHeartbeats 8000000 in
theorem SortBy_walk (l k : List JV) (R : JV) (hD : DoorC 46 l k R) (gl : GoodL l) (gk : GoodL k) (vx vy : Value) (w : World) (hx : JVal w w.heap.size (listT l) vx) (hy : JVal w w.heap.size (listT k) vy) :
    Calls Tryz.prog 16 #[vx, vy] w fun e w' => ByR R w.heap.size e w' ∧ Below w.heap.size w w' := by
  have HX := Lib.hid (fun W vx a => toGo_all (listT l) vx W a (good_list' gl))
  have HY := Lib.hid (fun W vy a => toGo_all (listT k) vy W a (good_list' gk))
  have HD := Lib.hid hD
  clear hD gl gk
  obtain ⟨a0, a1, a2, ex, _⟩ := hx.laid
  obtain ⟨b0, b1, b2, ey, _⟩ := hy.laid
  subst ex
  subst ey
  obtain ⟨hA, hB, hC⟩ := three_new' w (.cells #[.int .i64 5, .int .i64 0, .string ⟨#[]⟩, a0, a1, a2] 26) (.cells #[.int .i64 5, .int .i64 0, .string ⟨#[]⟩, b0, b1, b2] 26) (.cells #[.int .i64 0, .int .i64 0, .string ⟨#[]⟩, .slice none 0 0, .slice none 0 0, .slice none 0 0, .int .i64 0] 34)
  have hw := (((Below.refl w.heap.size w).alloc (Nat.le_refl _) (.cells #[.int .i64 5, .int .i64 0, .string ⟨#[]⟩, a0, a1, a2] 26)).alloc (by simp) (.cells #[.int .i64 5, .int .i64 0, .string ⟨#[]⟩, b0, b1, b2] 26)).alloc (by simp; omega) (.cells #[.int .i64 0, .int .i64 0, .string ⟨#[]⟩, .slice none 0 0, .slice none 0 0, .slice none 0 0, .int .i64 0] 34)
  have hsz : w.heap.size + 2 < (((w.alloc (.cells #[.int .i64 5, .int .i64 0, .string ⟨#[]⟩, a0, a1, a2] 26)).alloc (.cells #[.int .i64 5, .int .i64 0, .string ⟨#[]⟩, b0, b1, b2] 26)).alloc (.cells #[.int .i64 0, .int .i64 0, .string ⟨#[]⟩, .slice none 0 0, .slice none 0 0, .slice none 0 0, .int .i64 0] 34)).heap.size := by simp
  go_enter Tryz.func16, Tryz.ntmps16
  go_upto_region 1 with (fail)
  generalize (((w.alloc (.cells #[.int .i64 5, .int .i64 0, .string ⟨#[]⟩, a0, a1, a2] 26)).alloc (.cells #[.int .i64 5, .int .i64 0, .string ⟨#[]⟩, b0, b1, b2] 26)).alloc (.cells #[.int .i64 0, .int .i64 0, .string ⟨#[]⟩, .slice none 0 0, .slice none 0 0, .slice none 0 0, .int .i64 0] 34)) = w1 at *
  obtain ⟨p0, p1, p2, p3, p4, p5⟩ := box6 hA
  go_wp2_with fail
  refine (HX.out w1 _ (hx.below hw (by omega))).mono ?_
  rintro e w2 ⟨r1, rfl, hg1, hb⟩
  replace hB := kept_below hb (by omega) hB
  replace hC := kept_below hb (by omega) hC
  replace hw := hw.trans (hb.mono (by omega))
  replace hsz : w.heap.size + 2 < w2.heap.size := by have := hb.size; omega
  clear hb p0 p1 p2 p3 p4 p5 HX hA
  obtain ⟨q0, q1, q2, q3, q4, q5⟩ := box6 hB
  go_wp2_with fail
  refine (HY.out w2 _ (hy.below hw (by omega))).mono ?_
  rintro e w3 ⟨r2, rfl, hg2, hb⟩
  replace hC := kept_below hb (by omega) hC
  replace hw := hw.trans (hb.mono (by omega))
  have hg1' : GRep w3 0 w3.heap.size (listT l) r1 := GRep.mono (fun k _ hk2 => hb.block k hk2) (Nat.zero_le _) hb.size _ _ hg1
  have hg2' : GRep w3 0 w3.heap.size (listT k) r2 := GRep.mono (fun _ _ _ => rfl) (Nat.zero_le _) (Nat.le_refl _) _ _ hg2
  replace hsz : w.heap.size + 2 < w3.heap.size := by have := hb.size; omega
  have C3 := Lib.hid (HD.out w3 r1 r2 hg1' hg2')
  clear hb q0 q1 q2 q3 q4 q5 HY hB hg1 hg2 hg1' hg2' hx hy HD
  go_wp2_with fail
  refine C3.out.mono ?_
  rintro e w4 ⟨u, rfl, ⟨i, hi⟩, hf, hb⟩
  replace hC := kept_below hb (by omega) hC
  replace hw := hw.trans (hb.mono (by omega))
  replace hsz : w.heap.size + 2 < w4.heap.size := by have := hb.size; omega
  have C4 := Lib.hid (result_valQ R u w4 hf i hi)
  clear hb C3 hf hi
  go_wp2_with fail
  refine C4.out.mono ?_
  rintro e w6 ⟨c0, c1, c2, c3, c4, c5, rfl, hrep, hb⟩
  obtain ⟨k1, h1, t1, A1, n1, m1, A2, n2, m2, A3, n3, m3, rfl, rfl, rfl, rfl, rfl, rfl⟩ := hrep.shape
  have hsz5 := hsz
  replace hC := kept_below hb (by omega) hC
  replace hw := hw.trans (hb.mono (by omega))
  replace hsz : w.heap.size + 2 < w6.heap.size := by have := hb.size; omega
  have HR := Lib.hid hrep
  clear hb hrep C4
  obtain ⟨x0, x1, x2, x3, x4, x5, x6⟩ := box7 hC
  obtain ⟨f0, f1, f2, f3, f4, f5, f6⟩ := frozen7 hC
  have HB := Lib.hid (below_set7 hw (Nat.le_add_right _ 2) (.int .i64 k1) (.int .i64 h1) (.string t1) (.slice A1 n1 m1) (.slice A2 n2 m2) (.slice A3 n3 m3) (.int .i64 0))
  clear hw

  go_wp2
  refine bodyPost_ret (v := .agg #[.int .i64 k1, .int .i64 h1, .string t1, .slice A1 n1 m1, .slice A2 n2 m2, .slice A3 n3 m3, .int .i64 0]) (by simp [results, Tryz.results16, go_sem, *]) rfl ⟨⟨_, _, _, _, _, _, rfl, ?_⟩, HB.out⟩
  exact JRepS.mono (fun b hb => set7_block _ _ _ _ _ _ _ _ _ b (by omega)) (fun b hb => ⟨by omega, by rw [set7_size]; omega⟩) R _ HR.out

set_option maxRecDepth 100000 in
set_option maxHeartbeats 8000000 in
theorem UniqueBy_walk (l k : List JV) (R : JV) (hD : DoorC 47 l k R) (gl : GoodL l) (gk : GoodL k) (vx vy : Value) (w : World) (hx : JVal w w.heap.size (listT l) vx) (hy : JVal w w.heap.size (listT k) vy) :
    Calls Tryz.prog 17 #[vx, vy] w fun e w' => ByR R w.heap.size e w' ∧ Below w.heap.size w w' := by
  have HX := Lib.hid (fun W vx a => toGo_all (listT l) vx W a (good_list' gl))
  have HY := Lib.hid (fun W vy a => toGo_all (listT k) vy W a (good_list' gk))
  have HD := Lib.hid hD
  clear hD gl gk
  obtain ⟨a0, a1, a2, ex, _⟩ := hx.laid
  obtain ⟨b0, b1, b2, ey, _⟩ := hy.laid
  subst ex
  subst ey
  obtain ⟨hA, hB, hC⟩ := three_new' w (.cells #[.int .i64 5, .int .i64 0, .string ⟨#[]⟩, a0, a1, a2] 26) (.cells #[.int .i64 5, .int .i64 0, .string ⟨#[]⟩, b0, b1, b2] 26) (.cells #[.int .i64 0, .int .i64 0, .string ⟨#[]⟩, .slice none 0 0, .slice none 0 0, .slice none 0 0, .int .i64 0] 34)
  have hw := (((Below.refl w.heap.size w).alloc (Nat.le_refl _) (.cells #[.int .i64 5, .int .i64 0, .string ⟨#[]⟩, a0, a1, a2] 26)).alloc (by simp) (.cells #[.int .i64 5, .int .i64 0, .string ⟨#[]⟩, b0, b1, b2] 26)).alloc (by simp; omega) (.cells #[.int .i64 0, .int .i64 0, .string ⟨#[]⟩, .slice none 0 0, .slice none 0 0, .slice none 0 0, .int .i64 0] 34)
  have hsz : w.heap.size + 2 < (((w.alloc (.cells #[.int .i64 5, .int .i64 0, .string ⟨#[]⟩, a0, a1, a2] 26)).alloc (.cells #[.int .i64 5, .int .i64 0, .string ⟨#[]⟩, b0, b1, b2] 26)).alloc (.cells #[.int .i64 0, .int .i64 0, .string ⟨#[]⟩, .slice none 0 0, .slice none 0 0, .slice none 0 0, .int .i64 0] 34)).heap.size := by simp
  go_enter Tryz.func17, Tryz.ntmps17
  go_upto_region 1 with (fail)
  generalize (((w.alloc (.cells #[.int .i64 5, .int .i64 0, .string ⟨#[]⟩, a0, a1, a2] 26)).alloc (.cells #[.int .i64 5, .int .i64 0, .string ⟨#[]⟩, b0, b1, b2] 26)).alloc (.cells #[.int .i64 0, .int .i64 0, .string ⟨#[]⟩, .slice none 0 0, .slice none 0 0, .slice none 0 0, .int .i64 0] 34)) = w1 at *
  obtain ⟨p0, p1, p2, p3, p4, p5⟩ := box6 hA
  go_wp2_with fail
  refine (HX.out w1 _ (hx.below hw (by omega))).mono ?_
  rintro e w2 ⟨r1, rfl, hg1, hb⟩
  replace hB := kept_below hb (by omega) hB
  replace hC := kept_below hb (by omega) hC
  replace hw := hw.trans (hb.mono (by omega))
  replace hsz : w.heap.size + 2 < w2.heap.size := by have := hb.size; omega
  clear hb p0 p1 p2 p3 p4 p5 HX hA
  obtain ⟨q0, q1, q2, q3, q4, q5⟩ := box6 hB
  go_wp2_with fail
  refine (HY.out w2 _ (hy.below hw (by omega))).mono ?_
  rintro e w3 ⟨r2, rfl, hg2, hb⟩
  replace hC := kept_below hb (by omega) hC
  replace hw := hw.trans (hb.mono (by omega))
  have hg1' : GRep w3 0 w3.heap.size (listT l) r1 := GRep.mono (fun k _ hk2 => hb.block k hk2) (Nat.zero_le _) hb.size _ _ hg1
  have hg2' : GRep w3 0 w3.heap.size (listT k) r2 := GRep.mono (fun _ _ _ => rfl) (Nat.zero_le _) (Nat.le_refl _) _ _ hg2
  replace hsz : w.heap.size + 2 < w3.heap.size := by have := hb.size; omega
  have C3 := Lib.hid (HD.out w3 r1 r2 hg1' hg2')
  clear hb q0 q1 q2 q3 q4 q5 HY hB hg1 hg2 hg1' hg2' hx hy HD
  go_wp2_with fail
  refine C3.out.mono ?_
  rintro e w4 ⟨u, rfl, ⟨i, hi⟩, hf, hb⟩
  replace hC := kept_below hb (by omega) hC
  replace hw := hw.trans (hb.mono (by omega))
  replace hsz : w.heap.size + 2 < w4.heap.size := by have := hb.size; omega
  have C4 := Lib.hid (result_valQ R u w4 hf i hi)
  clear hb C3 hf hi
  go_wp2_with fail
  refine C4.out.mono ?_
  rintro e w6 ⟨c0, c1, c2, c3, c4, c5, rfl, hrep, hb⟩
  obtain ⟨k1, h1, t1, A1, n1, m1, A2, n2, m2, A3, n3, m3, rfl, rfl, rfl, rfl, rfl, rfl⟩ := hrep.shape
  have hsz5 := hsz
  replace hC := kept_below hb (by omega) hC
  replace hw := hw.trans (hb.mono (by omega))
  replace hsz : w.heap.size + 2 < w6.heap.size := by have := hb.size; omega
  have HR := Lib.hid hrep
  clear hb hrep C4
  obtain ⟨x0, x1, x2, x3, x4, x5, x6⟩ := box7 hC
  obtain ⟨f0, f1, f2, f3, f4, f5, f6⟩ := frozen7 hC
  have HB := Lib.hid (below_set7 hw (Nat.le_add_right _ 2) (.int .i64 k1) (.int .i64 h1) (.string t1) (.slice A1 n1 m1) (.slice A2 n2 m2) (.slice A3 n3 m3) (.int .i64 0))
  clear hw

  go_wp2
  refine bodyPost_ret (v := .agg #[.int .i64 k1, .int .i64 h1, .string t1, .slice A1 n1 m1, .slice A2 n2 m2, .slice A3 n3 m3, .int .i64 0]) (by simp [results, Tryz.results17, go_sem, *]) rfl ⟨⟨_, _, _, _, _, _, rfl, ?_⟩, HB.out⟩
  exact JRepS.mono (fun b hb => set7_block _ _ _ _ _ _ _ _ _ b (by omega)) (fun b hb => ⟨by omega, by rw [set7_size]; omega⟩) R _ HR.out
end Go.Proofs.YtmjegeipnaalnaaGreatDoor
