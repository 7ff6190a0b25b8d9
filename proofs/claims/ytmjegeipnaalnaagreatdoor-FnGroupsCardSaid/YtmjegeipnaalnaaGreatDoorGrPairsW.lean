/- Two lists have one length, and are right: the walk of the guard. Rows of values, end to end: what their cells are; what the guard of the law gives. -/
import Derived.Test.YtmjegeipnaalnaaGreatDoorGrImplC
import Derived.Test.YtmjegeipnaalnaaGreatDoorGrVague
import Derived.Test.YtmjegeipnaalnaaGreatDoorGrMapW
import Derived.Test.YtmjegeipnaalnaaGreatDoorGrFroQ
import Derived.Test.YtmjegeipnaalnaaGreatDoorGrFroN

/- Two lists have one length, and are right: the walk of the guard. -/
namespace Go.Proofs.YtmjegeipnaalnaaGreatDoor
open Go.RowKit

set_option maxRecDepth 100000 in
set_option maxHeartbeats 4000000 in
theorem fit2_walk (x y : JV) (vx vy : Value) (w : World) (hx : JVal w w.heap.size x vx) (hy : JVal w w.heap.size y vy) (hT : Tabs w) :
    Calls Tryz.prog 44 #[vx, vy] w fun e w' => e = .returned (.bool (fitB x && fitB y)) ∧ Below w.heap.size w w' := by
  have HX := Lib.hid hx
  have HY := Lib.hid hy
  have HT := Lib.hid hT
  obtain ⟨k, h, t, l, ks, vs⟩ := x
  obtain ⟨k', h', t', l', ks', vs'⟩ := y
  obtain ⟨a0, a1, a2, rfl, _⟩ := hx.laid
  obtain ⟨b0, b1, b2, rfl, _⟩ := hy.laid
  obtain ⟨hA, hB⟩ := two_new w (.cells #[.int .i64 k, .int .i64 h, .string t, a0, a1, a2] 26) (.cells #[.int .i64 k', .int .i64 h', .string t', b0, b1, b2] 26)
  have hw := ((Below.refl w.heap.size w).alloc (Nat.le_refl _) (.cells #[.int .i64 k, .int .i64 h, .string t, a0, a1, a2] 26)).alloc (by simp) (.cells #[.int .i64 k', .int .i64 h', .string t', b0, b1, b2] 26)
  have hsz : w.heap.size + 2 ≤ ((w.alloc (.cells #[.int .i64 k, .int .i64 h, .string t, a0, a1, a2] 26)).alloc (.cells #[.int .i64 k', .int .i64 h', .string t', b0, b1, b2] 26)).heap.size := by simp
  have C1 := Lib.hid (fun W (hW : Below w.heap.size w W) => Fit_walk _ _ W (HX.out.below hW hW.size) (HT.out.at' hW (Nat.le_refl _)))
  have C2 := Lib.hid (fun W (hW : Below w.heap.size w W) => Fit_walk _ _ W (HY.out.below hW hW.size) (HT.out.at' hW (Nat.le_refl _)))
  clear hx hy hT
  generalize fitB (.mk k h t l ks vs) = z1 at *
  generalize fitB (.mk k' h' t' l' ks' vs') = z2 at *
  go_enter Tryz.func44, Tryz.ntmps44
  go_upto_region 1 with (fail)
  generalize ((w.alloc (.cells #[.int .i64 k, .int .i64 h, .string t, a0, a1, a2] 26)).alloc (.cells #[.int .i64 k', .int .i64 h', .string t', b0, b1, b2] 26)) = w1 at *
  obtain ⟨p0, p1, p2, p3, p4, p5⟩ := box6 hA
  cases z1
  · go_wp2_with fail
    refine (C1.out w1 hw).mono ?_
    rintro e w2 ⟨rfl, hb⟩
    have hw2 := hw.trans (hb.mono (by omega))
    go_wp2_with fail
    go_ret
    exact ⟨rfl, hw2⟩
  · go_wp2_with fail
    refine (C1.out w1 hw).mono ?_
    rintro e w2 ⟨rfl, hb⟩
    have hw2 := hw.trans (hb.mono (by omega))
    have hB2 := kept_below hb (by omega) hB
    obtain ⟨q0, q1, q2, q3, q4, q5⟩ := box6 hB2
    go_wp2_with fail
    refine (C2.out w2 hw2).mono ?_
    rintro e w3 ⟨rfl, hb3⟩
    have hw3 := hw2.trans (hb3.mono hw2.size)
    go_wp2_with fail
    go_ret
    exact ⟨by cases z2 <;> rfl, hw3⟩

theorem list_val {w : World} {l : List JV} {A : Option Addr} {n c : Nat} (h : SlOf l.length 104 (JCells w w.heap.size l) (.slice A n c)) : JVal w w.heap.size (listT l) (.agg #[.int .i64 5, .int .i64 0, .string ⟨#[]⟩, .slice A n c, .slice none 0 0, .slice none 0 0]) := by
  unfold listT
  refine ⟨_, _, _, _, _, _, rfl, ?_⟩
  unfold JRep
  exact ⟨⟨by decide, by decide⟩, ⟨by decide, by decide⟩, by decide, _, _, _, rfl, h, ⟨none, 0, rfl, Nat.le_refl _, by simp, .inl rfl⟩, ⟨none, 0, rfl, Nat.le_refl _, by simp, .inl rfl⟩⟩
theorem slof_below {w w' : World} {l : List JV} {v : Value} (h : SlOf l.length 104 (JCells w w.heap.size l) v) (hb : Below w.heap.size w w') : SlOf l.length 104 (JCells w' w'.heap.size l) v := h.imp (JCells.below hb hb.size l)
theorem slof_len {n b : Nat} {C : Nat → Nat → Prop} {A : Option Addr} {m c : Nat} (h : SlOf n b C (.slice A m c)) : n = m ∧ n * b ≤ 140737488351232 := by
  obtain ⟨A2, c2, e, _, h2, _⟩ := h
  have : m = n := by simpa using (by simpa using e : A = A2 ∧ m = n ∧ c = c2).2.1
  exact ⟨this.symm, h2⟩

/-- The two lists have one length, and are right. -/
def pairsB (l k : List JV) : Bool := decide (l.length = k.length) && (fitB (listT l) && fitB (listT k))
set_option maxRecDepth 100000 in
set_option maxHeartbeats 4000000 in
theorem pairs_walk (l k : List JV) (A B : Option Addr) (n c m d : Nat) (w : World) (hl : SlOf l.length 104 (JCells w w.heap.size l) (.slice A n c)) (hk : SlOf k.length 104 (JCells w w.heap.size k) (.slice B m d)) (hT : Tabs w) :
    Calls Tryz.prog 12 #[.slice A n c, .slice B m d] w fun e w' => e = .returned (.bool (pairsB l k)) ∧ Below w.heap.size w w' := by
  have h1 := (slof_len hl).1
  have h2 := (slof_len hk).1
  have C3 := Lib.hid (fun W (hW : Below w.heap.size w W) => fit2_walk (listT l) (listT k) _ _ W (list_val (slof_below hl hW)) (list_val (slof_below hk hW)) (hT.at' hW (Nat.le_refl _)))
  unfold pairsB
  rw [h1, h2]
  clear hl hk hT h1 h2
  by_cases e : n = m
  · subst e
    rw [decide_eq_true rfl, Bool.true_and]
    have he : ((n : Int) == n) = true := by simp
    generalize (fitB (listT l) && fitB (listT k)) = z at *
    go_enter Tryz.func12, Tryz.ntmps12
    go_wp2_with fail
    refine (Array_walk A n c w).mono ?_
    rintro e w1 ⟨rfl, hb1⟩
    go_wp2_with fail
    refine (Array_walk B n d w1).mono ?_
    rintro e w2 ⟨rfl, hb2⟩
    have hw2 := hb1.trans (hb2.mono hb1.size)
    go_wp2_with fail
    refine (C3.out w2 hw2).mono ?_
    rintro e w3 ⟨rfl, hb3⟩
    have hw3 := hw2.trans (hb3.mono hw2.size)
    go_wp2_with fail
    go_ret
    exact ⟨rfl, hw3⟩
  · rw [decide_eq_false e, Bool.false_and]
    have he : ((n : Int) == m) = false := by simp; omega
    go_enter Tryz.func12, Tryz.ntmps12
    go_wp2_with fail
    go_ret
    exact ⟨rfl, Below.refl _ _⟩
end Go.Proofs.YtmjegeipnaalnaaGreatDoor

/- Rows of values, end to end: what their cells are; what the guard of the law gives. -/
namespace Go.Proofs.YtmjegeipnaalnaaGreatDoor
open Go.RowKit

/-- Cells in a row, as the values that they hold. -/
theorem JCellsS.flat {w : World} {S : Nat → Prop} {b : Nat} : ∀ {l : List JV} {o : Nat}, JCellsS w S l b o → ∃ xs, JFlat w S l xs ∧ ∀ j u, xs[j]? = some u → w.cell? ⟨b, o + j, none⟩ = some u
  | [], _, _ => ⟨[], by unfold JFlat; rfl, by simp⟩
  | y :: r, o, h => by
    unfold JCellsS at h
    obtain ⟨_, ⟨cs, h2, h3⟩, h4⟩ := h
    obtain ⟨xs, h5, h6⟩ := JCellsS.flat h4
    obtain ⟨k, hh, t, l, ks, vs⟩ := y
    have h2' := h2
    unfold JRepS at h2'
    obtain ⟨_, _, _, vl, vk, vv, rfl, _⟩ := h2'
    refine ⟨.int .i64 k :: .int .i64 hh :: .string t :: vl :: vk :: vv :: xs, ?_, fun j u hj => ?_⟩
    · unfold JFlat
      exact ⟨_, _, _, _, _, _, xs, rfl, h2, h5⟩
    · rcases Nat.lt_or_ge j 6 with h7 | h7
      · rw [h3 j h7]
        rcases j with _ | _ | _ | _ | _ | _ | j
        · exact hj
        · exact hj
        · exact hj
        · exact hj
        · exact hj
        · exact hj
        · omega
      · have h8 : xs[j - 6]? = some u := by
          obtain ⟨q, rfl⟩ : ∃ q, j = q + 6 := ⟨j - 6, by omega⟩
          simpa using hj
        have := h6 (j - 6) u h8
        rwa [show o + 6 + (j - 6) = o + j by omega] at this
theorem JCellsS.get {w : World} {S : Nat → Prop} : ∀ (l : List JV) (b o : Nat), JCellsS w S l b o → ∀ i (hi : i < l.length), S b ∧ ∃ cs, JRepS w S l[i] cs ∧ ∀ j, j < 6 → w.cell? ⟨b, o + i * 6 + j, none⟩ = cs[j]?
  | [], _, _, _, i, hi => absurd hi (by simp)
  | y :: r, b, o, h, 0, _ => by
    unfold JCellsS at h
    obtain ⟨h1, ⟨cs, h2, h3⟩, _⟩ := h
    exact ⟨h1, cs, h2, fun j hj => by rw [Nat.zero_mul, Nat.add_zero]; exact h3 j hj⟩
  | y :: r, b, o, h, i + 1, hi => by
    unfold JCellsS at h
    obtain ⟨_, _, h4⟩ := h
    obtain ⟨h1, cs, h2, h3⟩ := JCellsS.get r b (o + 6) h4 i (by simpa using hi)
    exact ⟨h1, cs, h2, fun j hj => by rw [show o + (i + 1) * 6 + j = o + 6 + i * 6 + j by omega]; exact h3 j hj⟩
/-- An element that is a value: its six cells. -/
theorem JCellsS.six {w : World} {S : Nat → Prop} {l : List JV} {b o : Nat} (h : JCellsS w S l b o) (i : Nat) (hi : i < l.length) :
    S b ∧ ∃ k1 h1 t1 A1 n1 m1 A2 n2 m2 A3 n3 m3, JRepS w S l[i] [.int .i64 k1, .int .i64 h1, .string t1, .slice A1 n1 m1, .slice A2 n2 m2, .slice A3 n3 m3] ∧ w.cell? ⟨b, o + i * 6, none⟩ = some (.int .i64 k1) ∧ w.cell? ⟨b, o + i * 6 + 1, none⟩ = some (.int .i64 h1) ∧ w.cell? ⟨b, o + i * 6 + 2, none⟩ = some (.string t1) ∧
      w.cell? ⟨b, o + i * 6 + 3, none⟩ = some (.slice A1 n1 m1) ∧ w.cell? ⟨b, o + i * 6 + 4, none⟩ = some (.slice A2 n2 m2) ∧ w.cell? ⟨b, o + i * 6 + 5, none⟩ = some (.slice A3 n3 m3) := by
  obtain ⟨h1, cs, h2, h3⟩ := JCellsS.get l b o h i hi
  have h2' := h2
  generalize l[i] = y at *
  obtain ⟨k, hh, t, l2, ks, vs⟩ := y
  unfold JRepS at h2'
  obtain ⟨_, _, _, vl, vk, vv, rfl, ⟨A1, m1, rfl, _⟩, ⟨A2, m2, rfl, _⟩, ⟨A3, m3, rfl, _⟩⟩ := h2'
  exact ⟨h1, _, _, _, _, _, _, _, _, _, _, _, _, h2, h3 0 (by omega), h3 1 (by omega), h3 2 (by omega), h3 3 (by omega), h3 4 (by omega), h3 5 (by omega)⟩
/-- An element that is a list: its six cells, and its row. -/
theorem JCellsS.lst {w : World} {S : Nat → Prop} {gs : List (List JV)} {b o : Nat} (h : JCellsS w S (gs.map listT) b o) (i : Nat) (hi : i < gs.length) :
    ∃ A1 m1 A2 n2 m2 A3 n3 m3, w.cell? ⟨b, o + i * 6, none⟩ = some (.int .i64 5) ∧ w.cell? ⟨b, o + i * 6 + 1, none⟩ = some (.int .i64 0) ∧ w.cell? ⟨b, o + i * 6 + 2, none⟩ = some (.string ⟨#[]⟩) ∧
      w.cell? ⟨b, o + i * 6 + 3, none⟩ = some (.slice A1 gs[i].length m1) ∧ w.cell? ⟨b, o + i * 6 + 4, none⟩ = some (.slice A2 n2 m2) ∧ w.cell? ⟨b, o + i * 6 + 5, none⟩ = some (.slice A3 n3 m3) ∧ (gs[i].length = 0 ∨ ∃ b2 o2, A1 = some ⟨b2, o2, none⟩ ∧ JCellsS w S gs[i] b2 o2) := by
  obtain ⟨_, cs, h2, h3⟩ := JCellsS.get _ b o h i (by simpa using hi)
  rw [List.getElem_map] at h2
  generalize gs[i] = y at *
  unfold listT JRepS at h2
  obtain ⟨_, _, _, vl, vk, vv, rfl, ⟨A1, m1, rfl, _, _, hJ⟩, ⟨A2, m2, rfl, _⟩, ⟨A3, m3, rfl, _⟩⟩ := h2
  exact ⟨_, _, _, _, _, _, _, _, h3 0 (by omega), h3 1 (by omega), h3 2 (by omega), h3 3 (by omega), h3 4 (by omega), h3 5 (by omega), hJ⟩
theorem headD_eq (G : List JV) (h : 0 < G.length) : G.headD nullT = G[0] := by
  cases G with
  | nil => exact absurd h (by simp)
  | cons a r => rfl
theorem addr_add (b o j : Nat) : (⟨b, o, none⟩ : Addr).add j = ⟨b, o + j, none⟩ := by unfold Addr.add; split <;> simp_all
theorem JFlat.append {w : World} {S : Nat → Prop} {m : List JV} {ys : List Value} (hm : JFlat w S m ys) : ∀ {l : List JV} {xs : List Value}, JFlat w S l xs → JFlat w S (l ++ m) (xs ++ ys)
  | [], xs, h => by
    unfold JFlat at h
    subst h
    simpa using hm
  | y :: r, xs, h => by
    unfold JFlat at h
    obtain ⟨c0, c1, c2, c3, c4, c5, xs', rfl, h2, h3⟩ := h
    show JFlat w S (y :: (r ++ m)) (c0 :: c1 :: c2 :: c3 :: c4 :: c5 :: (xs' ++ ys))
    unfold JFlat
    exact ⟨_, _, _, _, _, _, _, rfl, h2, JFlat.append hm h3⟩
theorem JFlat.one {w : World} {S : Nat → Prop} : ∀ {l : List JV} {xs : List Value}, JFlat w S l xs → ∀ u ∈ xs, u.oneCell' = true
  | [], xs, h, u, hu => by
    unfold JFlat at h
    subst h
    simp at hu
  | y :: r, xs, h, u, hu => by
    unfold JFlat at h
    obtain ⟨c0, c1, c2, c3, c4, c5, xs', rfl, h2, h3⟩ := h
    obtain ⟨k1, h1, t1, A1, n1, m1, A2, n2, m2, A3, n3, m3, rfl, rfl, rfl, rfl, rfl, rfl⟩ := h2.shape
    have h4 := six_one k1 h1 t1 A1 A2 A3 n1 m1 n2 m2 n3 m3
    have h5 : u ∈ [Value.int .i64 k1, .int .i64 h1, .string t1, .slice A1 n1 m1, .slice A2 n2 m2, .slice A3 n3 m3] ∨ u ∈ xs' := by simpa [or_assoc] using hu
    rcases h5 with h5 | h5
    · exact h4 u h5
    · exact JFlat.one h3 u h5
/-- A row that a call owns, as a slice of values. -/
theorem flat_own {N n : Nat} {v : Value} {xs : List Value} {l : List JV} {w : World} {S : Nat → Prop} (hown : w.ownsRow N 26 6 v n xs) (hfl : JFlat w S l xs) (hl : l.length = n) (hn : n * 104 ≤ 140737488351232) (hS : ∀ b, S b → b < w.heap.size) :
    SlOf l.length 104 (JCells w w.heap.size l) v := by
  subst hl
  have hfl' := hfl.mono (w' := w) (S' := fun b => b < w.heap.size) (fun _ _ => rfl) hS
  have hlt := hown.lt
  have hc := fun (g : Nat) => hown.cells (g := g)
  rcases hown.2 with ⟨rfl, h0⟩ | ⟨g, cap, cur, rfl, hbg, hg, hnc, hcm, hcs, htake⟩
  · rw [h0]
    exact ⟨none, 0, rfl, Nat.le_refl _, by omega, .inl rfl⟩
  · refine ⟨_, cap, rfl, hnc, hn, .inr ⟨g, 0, rfl, JCellsS.toRep (S := fun b => b < w.heap.size) (fun _ h => h) l g 0 (JFlat.cells (S := fun b => b < w.heap.size) (hlt g rfl).2 hfl' fun j u hj => ?_)⟩⟩
    have := hc g rfl j u hj
    rwa [show (⟨g, 0, none⟩ : Addr).add j = ⟨g, 0 + j, none⟩ by unfold Addr.add; split <;> simp_all] at this

theorem FewL.le {N M : Nat} (hN : N ≤ M) : ∀ {l : List JV}, FewL N l → FewL M l
  | [], _ => by unfold FewL; trivial
  | x :: r, h => by
    unfold FewL at h ⊢
    exact ⟨h.1.le hN x, FewL.le hN h.2⟩
/-- What the guard gives. -/
theorem ok_of_pairs {l k : List JV} (h : pairsB l k = true) : ByOk l k ∧ l.length ≤ 400 := by
  unfold pairsB at h
  simp only [Bool.and_eq_true, decide_eq_true_eq] at h
  obtain ⟨h1, h2, h3⟩ := h
  have f1 := few_list (few_of_fit h2)
  exact ⟨⟨h1.symm, by omega, good_of_list (good_of_fit h2), good_of_list (good_of_fit h3), FewL.le (by omega) f1.2, short_of_list (short_of_fit h2), short_of_list (short_of_fit h3)⟩, f1.1⟩
theorem vals_good {l : List JV} {u : List Nat} (gl : GoodL l) (hu : ∀ i ∈ u, i < l.length) : GoodL (u.map (ofL l)) := by
  induction u with
  | nil => unfold GoodL; trivial
  | cons a r ih =>
    rw [List.map_cons]
    unfold GoodL
    refine ⟨?_, ih fun i hi => hu i (by simp [hi])⟩
    have h := hu a (by simp)
    unfold ofL
    rw [getD_at h]
    exact gl.get _ (List.getElem_mem h)
/-- Six cells that read as a list. -/
theorem list_shape {w : World} {S : Nat → Prop} {l : List JV} {c0 c1 c2 c3 c4 c5 : Value} (h : JRepS w S (listT l) [c0, c1, c2, c3, c4, c5]) :
    ∃ A1 m1 A2 n2 m2 A3 n3 m3, c0 = .int .i64 5 ∧ c1 = .int .i64 0 ∧ c2 = .string ⟨#[]⟩ ∧ c3 = .slice A1 l.length m1 ∧ c4 = .slice A2 n2 m2 ∧ c5 = .slice A3 n3 m3 ∧ (l.length = 0 ∨ ∃ b o, A1 = some ⟨b, o, none⟩ ∧ JCellsS w S l b o) := by
  unfold listT JRepS at h
  obtain ⟨_, _, _, vl, vk, vv, e, ⟨A1, m1, rfl, _, _, hJ⟩, ⟨A2, m2, rfl, _⟩, ⟨A3, m3, rfl, _⟩⟩ := h
  simp only [List.cons.injEq, and_true] at e
  obtain ⟨rfl, rfl, rfl, rfl, rfl, rfl⟩ := e
  exact ⟨_, _, _, _, _, _, _, _, rfl, rfl, rfl, rfl, rfl, rfl, hJ⟩
theorem cells_list {w : World} {l : List JV} {A : Option Addr} {m n c : Nat} (h : SlOf m 104 (JCells w w.heap.size l) (.slice A n c)) (hm : m = l.length) : JRep w w.heap.size (listT l) [.int .i64 5, .int .i64 0, .string ⟨#[]⟩, .slice A n c, .slice none 0 0, .slice none 0 0] := by
  subst hm
  unfold listT JRep
  exact ⟨⟨by decide, by decide⟩, ⟨by decide, by decide⟩, by decide, _, _, _, rfl, h, ⟨none, 0, rfl, Nat.le_refl _, by simp, .inl rfl⟩, ⟨none, 0, rfl, Nat.le_refl _, by simp, .inl rfl⟩⟩
/-- The groups' values, one behind the other, are the sorted ones; the groups' firsts are the unique ones. -/
theorem groups_law (l k : List JV) : ((grpT l k).map fun g => g.map (ofL l)).flatten = (sortT l k).map (ofL l) ∧ (∀ g ∈ grpT l k, g ≠ []) ∧ (grpT l k).map (fun g => ofL l (g.headD 0)) = (unqT l k).map (ofL l) := by
  obtain ⟨h1, h2, h3, _⟩ := grp_law (keyNe (ofL k)) (sortT l k)
  refine ⟨?_, h2, ?_⟩
  · rw [← List.map_flatten]
    unfold grpT
    rw [h1]
  · unfold grpT unqT
    rw [← h3, List.map_map]
    rfl
end Go.Proofs.YtmjegeipnaalnaaGreatDoor
