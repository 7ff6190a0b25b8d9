/- An argument of the thin package's value type, read as data, is one of our trees: its cells read as it. -/
import Derived.Test.YtmjegeipnaalnaaGreatDoorFitT
namespace Go.Proofs.YtmjegeipnaalnaaGreatDoor
open Go.RowKit Go.ChangeShapes Go.WideShapes

theorem cells26 : Tryz.prog.cellsOf 26 = 6 := by kernel_rfl
theorem cells23 : Tryz.prog.cellsOf 23 = 1 := by kernel_rfl
theorem cells24 : Tryz.prog.cellsOf 24 = 1 := by kernel_rfl
theorem cells22 : Tryz.prog.cellsOf 22 = 1 := by kernel_rfl
theorem cells3 : Tryz.prog.cellsOf 3 = 1 := by kernel_rfl
theorem cells9 : Tryz.prog.cellsOf 9 = 1 := by kernel_rfl
theorem bytes26 : Tryz.prog.bytesOf 26 = 104 := by kernel_rfl
theorem bytes9 : Tryz.prog.bytesOf 9 = 16 := by kernel_rfl
instance : Inhabited JV := ⟨.mk 0 0 ⟨#[]⟩ [] [] []⟩

theorem spot_of_cell {w : World} {a : Addr} {v : Value} (h : w.cell? a = some v) : a.spot = none := by
  unfold World.cell? at h
  split at h
  · split at h
    · cases h
    · rename_i hs
      cases hq : a.spot with
      | none => rfl
      | some q => rw [hq] at hs; simp at hs
  · cases h

theorem JCells_of {w : World} {B b : Nat} : ∀ (l : List JV) (o : Nat), (∀ i (hi : i < l.length), b < B ∧ ∃ cs, JRep w B l[i] cs ∧ ∀ j, j < 6 → w.cell? ⟨b, o + i * 6 + j, none⟩ = cs[j]?) → JCells w B l b o
  | [], _, _ => by unfold JCells; trivial
  | x :: r, o, h => by
    unfold JCells
    obtain ⟨h1, cs, h2, h3⟩ := h 0 (by simp)
    refine ⟨h1, ⟨cs, h2, fun j hj => by have := h3 j hj; rwa [show o + 0 * 6 + j = o + j by omega] at this⟩, JCells_of r (o + 6) fun i hi => ?_⟩
    obtain ⟨h4, cs', h5, h6⟩ := h (i + 1) (by simpa using hi)
    exact ⟨h4, cs', h5, fun j hj => by have := h6 j hj; rwa [show o + (i + 1) * 6 + j = o + 6 + i * 6 + j by omega] at this⟩
theorem SCells_of {w : World} {B b : Nat} : ∀ (l : List ByteArray) (o : Nat), (∀ i (hi : i < l.length), b < B ∧ l[i].size ≤ 140737488351232 ∧ w.cell? ⟨b, o + i, none⟩ = some (.string l[i])) → SCells w B l b o
  | [], _, _ => by unfold SCells; trivial
  | x :: r, o, h => by
    unfold SCells
    obtain ⟨h1, h2, h3⟩ := h 0 (by simp)
    refine ⟨h1, h2, h3, SCells_of r (o + 1) fun i hi => ?_⟩
    obtain ⟨h4, h5, h6⟩ := h (i + 1) (by simpa using hi)
    exact ⟨h4, h5, by rw [show o + 1 + i = o + (i + 1) by omega]; exact h6⟩

theorem wf_i64 {n : Int} (h : (Lit.int .i64 n).wf = true) : I64 n := by
  simp [Lit.wf, IntKind.min, IntKind.max, IntKind.signed, IntKind.bits] at h
  exact ⟨by omega, by omega⟩

section
variable {H : Type} {enc : TypeId × Value → H} {w : World}

theorem weightsAll_mem {P : Program} {e : TypeId} : ∀ (l : List (DataW H)) (d : DataW H), d ∈ l → (DataW.weightsAll P e l).all (· ≤ reachBytes) = true → (d.weights P e).all (· ≤ reachBytes) = true
  | [], _, h, _ => by simp at h
  | x :: r, d, h, hw => by
    simp only [DataW.weightsAll, List.all_append, Bool.and_eq_true] at hw
    rcases List.mem_cons.1 h with rfl | h
    · exact hw.1
    · exact weightsAll_mem r d h hw.2

set_option maxRecDepth 100000 in
theorem string_reach {s : ByteArray} (h : (DataW.weights Tryz.prog 9 (.lit (.string s.data.toList) : DataW H)).all (· ≤ reachBytes) = true) : s.size ≤ 140737488351232 := by
  simp only [DataW.weights, List.all_cons, List.all_nil, Bool.and_true, decide_eq_true_eq] at h
  have e : reachBytes = 140737488351232 := rfl
  have e2 : s.data.toList.length = s.size := Array.length_toList
  omega

set_option maxRecDepth 100000 in
/-- A slice of strings. -/
theorem open_keys {fuel : Nat} {c : Value} {x : DataW H × List MemPlace} (h : DataW.trod enc Tryz.prog w 0 (fun _ => true) true fuel 24 [c] = some x) (hw : (x.1.weights Tryz.prog 24).all (· ≤ reachBytes) = true) :
    ∃ ks : List ByteArray, SlOf ks.length 16 (SCells w w.heap.size ks) c := by
  rcases Deep.open_slice Tryz.underlying24 h with ⟨hc, rfl⟩ | ⟨a, len, cap, m, n, D, Pl, hc, _, hl, _, hm, rfl, hx⟩
  · simp only [List.cons.injEq, and_true] at hc
    subst hc
    exact ⟨[], none, 0, rfl, by simp, by simp, .inl rfl⟩
  · simp only [List.cons.injEq, and_true] at hc
    subst hc
    simp only [if_true] at hm
    subst hm
    simp only [DataW.weights, Tryz.underlying24, List.all_cons, List.all_append, Bool.and_eq_true, List.length_map, List.length_range, bytes9, decide_eq_true_eq] at hw
    obtain ⟨hw1, hw2, _⟩ := hw
    rw [cells9] at hx
    have hel : ∀ i, i < len → ∃ s : ByteArray, s.size ≤ 140737488351232 ∧ w.cell? (a.add i) = some (.string s) := fun i hi => by
      obtain ⟨cs', h1, h2⟩ := hx i (by omega)
      obtain ⟨_, h3, h4⟩ := World.cells?_some h1
      obtain ⟨s, hs, hd, _⟩ := DataW.trod_string Tryz.underlying9 h2
      simp only [Prod.mk.injEq] at hd
      refine ⟨s, string_reach (H := H) ?_, ?_⟩
      · rw [← hd.1]
        exact weightsAll_mem _ _ (List.mem_map.2 ⟨i, by simpa using hi, rfl⟩) hw2
      · have := h4 0 (by omega)
        rw [hs, Deep.add_add] at this
        simpa using this
    obtain ⟨f, hf⟩ := Deep.choose_lt (α := ByteArray) hel
    refine ⟨(List.range len).map f, some a, m, by simp, by simpa using hl, ?_, ?_⟩
    · have : reachBytes = 140737488351232 := rfl
      omega
    · by_cases h0 : len = 0
      · left; simpa using h0
      · right
        have hsp := spot_of_cell (hf 0 (by omega)).2
        obtain ⟨b, o, sp⟩ := a
        have hsp' : sp = none := by simpa [Addr.add] using hsp
        subst hsp'
        refine ⟨b, o, rfl, SCells_of _ o fun i hi => ?_⟩
        have hi' : i < len := by simpa using hi
        obtain ⟨h1, h2⟩ := hf i hi'
        have ha : (⟨b, o, none⟩ : Addr).add i = ⟨b, o + i, none⟩ := by unfold Addr.add; split <;> simp_all
        rw [ha] at h2
        exact ⟨block_lt_of_cell h2, by simpa using h1, by simpa using h2⟩

set_option maxRecDepth 100000 in
/-- A slice of values, its elements met by a promise for less fuel. -/
theorem open_list {fuel : Nat} (ih : ∀ m, m < fuel → ∀ (cs : List Value) (x : DataW H × List MemPlace), DataW.trod enc Tryz.prog w 0 (fun _ => true) true m 26 cs = some x → (x.1.weights Tryz.prog 26).all (· ≤ reachBytes) = true → ∃ v : JV, JRep w w.heap.size v cs)
    {c : Value} {x : DataW H × List MemPlace} (h : DataW.trod enc Tryz.prog w 0 (fun _ => true) true fuel 23 [c] = some x) (hw : (x.1.weights Tryz.prog 23).all (· ≤ reachBytes) = true) :
    ∃ l : List JV, SlOf l.length 104 (JCells w w.heap.size l) c := by
  obtain ⟨fuel', rfl⟩ : ∃ f, fuel = f + 1 := by
    cases fuel with
    | zero => simp [DataW.trod] at h
    | succ f => exact ⟨f, rfl⟩
  have hfuel : ∀ n', n' ≤ fuel' → n' < fuel' + 1 := fun _ h => Nat.lt_succ_of_le h
  rcases DataW.trod_slice Tryz.underlying23 h with ⟨hc, rfl⟩ | ⟨a, len, cap, elems, rest, n, hn, hc, rfl, _, hl, _, hel, hx, hsp, _⟩
  · simp only [List.cons.injEq, and_true] at hc
    subst hc
    exact ⟨[], none, 0, rfl, by simp, by simp, .inl rfl⟩
  · simp only [List.cons.injEq, and_true] at hc
    subst hc
    obtain rfl : fuel' = n := Nat.succ.inj hn
    obtain ⟨hr, _⟩ := hsp rfl
    simp only [DataW.weights, Tryz.underlying23, List.all_cons, List.all_append, Bool.and_eq_true, List.length_map, bytes26, decide_eq_true_eq] at hw
    obtain ⟨hw1, hw2, _⟩ := hw
    rw [cells26] at hx
    have hv : ∀ i, i < len → ∃ v : JV, ∃ cs', JRep w w.heap.size v cs' ∧ ∀ j, j < 6 → w.cell? (a.add (i * 6 + j)) = cs'[j]? := fun i hi => by
      have hxi := hx i hi
      obtain ⟨cs', h1, h2⟩ := Option.bind_eq_some_iff.1 (hxi.trans (List.getElem?_eq_getElem (by omega : i < elems.length)))
      obtain ⟨_, _, h4⟩ := World.cells?_some h1
      obtain ⟨v, hv⟩ := ih fuel' (by omega) cs' _ h2 (weightsAll_mem _ _ (List.mem_map.2 ⟨elems[i]'(by omega), List.getElem_mem _, rfl⟩) hw2)
      exact ⟨v, cs', hv, fun j hj => by rw [← Deep.add_add]; exact h4 j hj⟩
    obtain ⟨f, hf⟩ := Deep.choose_lt (α := JV) hv
    refine ⟨(List.range len).map f, some a, cap, by simp, by simpa using hl, ?_, ?_⟩
    · have e : reachBytes = 140737488351232 := rfl
      have : elems.length + rest.length = cap := by omega
      rw [this] at hw1
      omega
    · by_cases h0 : len = 0
      · left; simpa using h0
      · right
        obtain ⟨cs0, hr0, hc0⟩ := hf 0 (by omega)
        obtain ⟨z0, _, _, _, _, _, rfl⟩ := hr0.six
        have hsp := spot_of_cell (hc0 0 (by omega))
        obtain ⟨b, o, sp⟩ := a
        have hsp' : sp = none := by simpa [Addr.add] using hsp
        subst hsp'
        refine ⟨b, o, rfl, JCells_of _ o fun i hi => ?_⟩
        have hi' : i < len := by simpa using hi
        obtain ⟨cs', h1, h2⟩ := hf i hi'
        have ha : ∀ k, (⟨b, o, none⟩ : Addr).add k = ⟨b, o + k, none⟩ := fun k => by unfold Addr.add; split <;> simp_all
        have hlt : b < w.heap.size := block_lt_of_cell (a := ⟨b, o + 0, none⟩) (by rw [← ha 0]; exact hc0 0 (by omega))
        refine ⟨hlt, cs', by simpa using h1, fun j hj => ?_⟩
        have := h2 j hj
        rwa [ha, ← Nat.add_assoc] at this

set_option maxRecDepth 100000 in
theorem open_val : ∀ (fuel : Nat) (cs : List Value) (x : DataW H × List MemPlace), DataW.trod enc Tryz.prog w 0 (fun _ => true) true fuel 26 cs = some x → (x.1.weights Tryz.prog 26).all (· ≤ reachBytes) = true →
    ∃ v : JV, JRep w w.heap.size v cs := by
  intro fuel
  induction fuel using Nat.strongRecOn with
  | _ fuel ih =>
    intro cs x h hw
    obtain ⟨xs, n, rfl, rfl, hlen, hxs, hf⟩ := DataW.trod_struct Tryz.underlying26 h
    rw [cells26] at hlen
    match cs, hlen, xs, hxs with
    | [c0, c1, c2, c3, c4, c5], _, [x0, x1, x2, x3, x4, x5], _ =>
      have f0 : DataW.trod enc Tryz.prog w 0 (fun _ => true) true n 22 [c0] = some x0 := by
        have g : DataW.trod enc Tryz.prog w 0 (fun _ => true) true n 22 (([c0, c1, c2, c3, c4, c5].drop 0).take (Tryz.prog.cellsOf 22)) = some x0 := hf 0 _ rfl
        rw [cells22] at g; exact g
      have f1 : DataW.trod enc Tryz.prog w 0 (fun _ => true) true n 3 [c1] = some x1 := by
        have g : DataW.trod enc Tryz.prog w 0 (fun _ => true) true n 3 (([c0, c1, c2, c3, c4, c5].drop 1).take (Tryz.prog.cellsOf 3)) = some x1 := hf 1 _ rfl
        rw [cells3] at g; exact g
      have f2 : DataW.trod enc Tryz.prog w 0 (fun _ => true) true n 9 [c2] = some x2 := by
        have g : DataW.trod enc Tryz.prog w 0 (fun _ => true) true n 9 (([c0, c1, c2, c3, c4, c5].drop 2).take (Tryz.prog.cellsOf 9)) = some x2 := hf 2 _ rfl
        rw [cells9] at g; exact g
      have f3 : DataW.trod enc Tryz.prog w 0 (fun _ => true) true n 23 [c3] = some x3 := by
        have g : DataW.trod enc Tryz.prog w 0 (fun _ => true) true n 23 (([c0, c1, c2, c3, c4, c5].drop 3).take (Tryz.prog.cellsOf 23)) = some x3 := hf 3 _ rfl
        rw [cells23] at g; exact g
      have f4 : DataW.trod enc Tryz.prog w 0 (fun _ => true) true n 24 [c4] = some x4 := by
        have g : DataW.trod enc Tryz.prog w 0 (fun _ => true) true n 24 (([c0, c1, c2, c3, c4, c5].drop 4).take (Tryz.prog.cellsOf 24)) = some x4 := hf 4 _ rfl
        rw [cells24] at g; exact g
      have f5 : DataW.trod enc Tryz.prog w 0 (fun _ => true) true n 23 [c5] = some x5 := by
        have g : DataW.trod enc Tryz.prog w 0 (fun _ => true) true n 23 (([c0, c1, c2, c3, c4, c5].drop 5).take (Tryz.prog.cellsOf 23)) = some x5 := hf 5 _ rfl
        rw [cells23] at g; exact g
      simp only [DataW.weights, Tryz.underlying26, DataW.weightsEach, List.map_cons, List.map_nil, List.all_append, Bool.and_eq_true] at hw
      obtain ⟨k, hk, _, wk⟩ := DataW.trod_int Tryz.underlying22 f0
      obtain ⟨hh, hhh, _, wh⟩ := DataW.trod_int Tryz.underlying3 f1
      obtain ⟨t, ht, hxt, _⟩ := DataW.trod_string Tryz.underlying9 f2
      obtain ⟨l, hl⟩ := open_list (fun m hm => ih m (by omega)) f3 hw.2.2.2.1
      obtain ⟨ks, hks⟩ := open_keys f4 hw.2.2.2.2.1
      obtain ⟨vs, hvs⟩ := open_list (fun m hm => ih m (by omega)) f5 hw.2.2.2.2.2.1
      simp only [List.cons.injEq, and_true] at hk hhh ht
      subst hk hhh ht
      refine ⟨.mk k hh t l ks vs, ?_⟩
      unfold JRep
      refine ⟨wf_i64 wk, wf_i64 wh, ?_, c3, c4, c5, rfl, hl, hks, hvs⟩
      rw [hxt] at hw
      exact string_reach (H := H) hw.2.2.1

/-- An argument as data: one of our trees. -/
theorem open_arg {v : Value} {d : DataW H} {p : List MemPlace} (h : ∃ fuel, DataW.trod enc Tryz.prog w 0 (fun _ => true) true fuel 26 v.cells.toList = some (d, p)) (hw : (d.weights Tryz.prog 26).all (· ≤ reachBytes) = true) :
    ∃ t : JV, JVal w w.heap.size t v := by
  obtain ⟨fuel, h⟩ := h
  obtain ⟨t, ht⟩ := open_val fuel _ _ h hw
  obtain ⟨c0, c1, c2, c3, c4, c5, e⟩ := ht.six
  refine ⟨t, c0, c1, c2, c3, c4, c5, ?_, by rw [← e]; exact ht⟩
  cases v with
  | agg cs =>
    have e' : cs.toList = [c0, c1, c2, c3, c4, c5] := e
    rw [← e', Array.toArray_toList]
  | _ => simp [Value.cells] at e
end
end Go.Proofs.YtmjegeipnaalnaaGreatDoor
