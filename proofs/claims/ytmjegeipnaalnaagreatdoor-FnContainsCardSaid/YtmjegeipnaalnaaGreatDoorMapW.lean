/- Go's maps with rising keys of text: making, laying an entry, looking one up, going through all; and the law of containment over maps. -/
import Derived.Test.YtmjegeipnaalnaaGreatDoorDyn
import Derived.Laws.IdiomRangeMap
import Derived.MapKept
namespace Go.Proofs.YtmjegeipnaalnaaGreatDoor
open Go.RowKit

theorem ba_ext {a b : ByteArray} (h : a.toList = b.toList) : a = b := by
  rw [Lib.toList_data, Lib.toList_data] at h
  cases a; cases b
  simp at h
  simp [h]
theorem ba_beq (a b : ByteArray) : (a == b) = (a.toList == b.toList) := by
  have hd : (a == b) = decide (a = b) := by
    have h0 : (a == b) = (a.data == b.data) := by cases a; cases b; rfl
    rw [h0]
    by_cases e : a = b
    · subst e; simp
    · have h1 : a.data ≠ b.data := fun h => e (by cases a; cases b; simpa using h)
      rw [decide_eq_false e]; simpa using h1
  by_cases e : a = b
  · subst e; rw [hd]; simp
  · have h1 : (a == b) = false := by rw [hd]; simpa using e
    have h2 : (a.toList == b.toList) = false := by
      cases hc : a.toList == b.toList with
      | false => rfl
      | true => exact absurd (ba_ext (beq_iff_eq.1 hc)) e
    rw [h1, h2]

/-- The look for a key among entries: what it finds is what the tree has there. -/
theorem find_look {w : World} {lo B : Nat} (x : ByteArray) : ∀ (ks : List ByteArray) (vs : List JV) (es : List MapEntry) (i : Nat), es.map (·.key) = ks.map Value.string → GVals w lo B vs (es.map (·.val)) → ks.length = vs.length →
    (getV ks vs x = none ∧ Instr.findNow .string (.string x) es i = some none) ∨ (∃ y c j, getV ks vs x = some y ∧ Instr.findNow .string (.string x) es i = some (some (j, c)) ∧ GRep w lo B y c)
  | [], _, [], _, _, _, _ => .inl ⟨by unfold getV; rfl, rfl⟩
  | [], _, _ :: _, _, h, _, _ => absurd h (by simp)
  | _ :: _, _, [], _, h, _, _ => absurd h (by simp)
  | _ :: _, [], _ :: _, _, _, _, h => absurd h (by simp)
  | k :: ks, v :: vs, e :: es, i, h1, h2, h3 => by
    simp only [List.map_cons, List.cons.injEq] at h1
    obtain ⟨hk, h1⟩ := h1
    rw [List.map_cons] at h2
    unfold GVals at h2
    obtain ⟨c, cs', hc, h4, h5⟩ := h2
    simp only [List.cons.injEq] at hc
    obtain ⟨rfl, rfl⟩ := hc
    have hs : Instr.sameNow .string (.string x) e.key = some (k.toList == x.toList) := by
      rw [hk]; show some (x == k) = _; rw [ba_beq, Bool.beq_comm]
    cases he : k.toList == x.toList with
    | true =>
      refine .inr ⟨v, e.val, i, ?_, ?_, h4⟩
      · unfold getV; rw [he]; simp
      · unfold Instr.findNow; rw [hs, he]
    | false =>
      have g1 : getV (k :: ks) (v :: vs) x = getV ks vs x := by conv => lhs; unfold getV; rw [he]; simp only [Bool.false_eq_true, if_false]
      have g2 : Instr.findNow .string (.string x) (e :: es) i = Instr.findNow .string (.string x) es (i + 1) := by conv => lhs; unfold Instr.findNow; rw [hs, he]
      rw [g1, g2]
      exact find_look x ks vs es (i + 1) h1 h5 (by simpa using h3)

/-- A world with one block turned. -/
def layB (w : World) (r : Nat) (o : Obj) : World := { w with heap := w.heap.setIfInBounds r o }
theorem layB_at {w : World} {r : Nat} {o o' : Obj} (h : w.heap[r]? = some o') : (layB w r o).heap[r]? = some o := by
  have hlt := (Array.getElem?_eq_some_iff.1 h).1
  simp [layB, hlt]
theorem layB_other (w : World) {r k : Nat} (o : Obj) (h : k ≠ r) : (layB w r o).heap[k]? = w.heap[k]? := by
  simp [layB, h.symm]
@[simp] theorem layB_size (w : World) (r : Nat) (o : Obj) : (layB w r o).heap.size = w.heap.size := by simp [layB]
theorem Below.lay {B r : Nat} {a w : World} (h : Below B a w) (hr : B ≤ r) (o : Obj) : Below B a (layB w r o) :=
  ⟨h.os, h.tape, h.output, by simpa using h.size, fun k hk => (layB_other w o (by omega)).trans (h.block k hk)⟩

theorem run_update {P : Program} {mty kt et : TypeId} {w : World} {r : Nat} {s : ByteArray} {val : Value} {es : Array MapEntry} {clock : Nat} (hm : P.underlying mty = some (.map kt et)) (hk : P.underlying kt = some .string) (hb : w.heap[r]? = some (.map es clock))
    (hf : Instr.findNow .string (.string s) es.toList 0 = some none) :
    (Instr.mapUpdate mty (.map (some r)) (.string s) val).run P w = .ok () (layB w r (.map (es.push { key := .string s, val := val, born := clock }) (clock + 1))) := by
  have hc : (Instr.checkKey false 10000 kt (.string s)).run P w = .ok () w := MapKept.run_checkKey (k := .string s) hk (by simp [MapKept.IsKey]) false 9999
  simp [Instr.mapUpdate, run_underlying hm, MapKept.run_getObj_map hb, hc, MapKept.run_findKey hk hf, MapKept.run_setObj_map _ hb, Result.andThen, layB]

theorem run_look_none {P : Program} {mty kt et : TypeId} {w : World} {r : Nat} {s : ByteArray} {es : Array MapEntry} {clock : Nat} {z : Value} (hm : P.underlying mty = some (.map kt et)) (hk : P.underlying kt = some .string) (hz : (zeroValue et).run P w = .ok z w) (hb : w.heap[r]? = some (.map es clock))
    (hf : Instr.findNow .string (.string s) es.toList 0 = some none) :
    (Instr.lookup mty (.map (some r)) (.string s) true).run P w = .ok (.tuple #[z, .bool false]) w := by
  have hc : ∀ e, (Instr.checkKey e 10000 kt (.string s)).run P w = .ok () w := fun e => MapKept.run_checkKey (k := .string s) hk (by simp [MapKept.IsKey]) e 9999
  simp [Instr.lookup, run_underlying hm, MapKept.run_getObj_map hb, hc, MapKept.run_findKey hk hf, hz, Result.andThen]
theorem run_look_some {P : Program} {mty kt et : TypeId} {w : World} {r : Nat} {s : ByteArray} {es : Array MapEntry} {clock : Nat} {j : Nat} {c : Value} (hm : P.underlying mty = some (.map kt et)) (hk : P.underlying kt = some .string) (hb : w.heap[r]? = some (.map es clock))
    (hf : Instr.findNow .string (.string s) es.toList 0 = some (some (j, c))) :
    (Instr.lookup mty (.map (some r)) (.string s) true).run P w = .ok (.tuple #[c, .bool true]) w := by
  have hc : ∀ e, (Instr.checkKey e 10000 kt (.string s)).run P w = .ok () w := fun e => MapKept.run_checkKey (k := .string s) hk (by simp [MapKept.IsKey]) e 9999
  simp [Instr.lookup, run_underlying hm, MapKept.run_getObj_map hb, hc, MapKept.run_findKey hk hf, Result.andThen]

/-- 'next' over a map that stays as it was, the iterator's block anywhere. -/
theorem run_next_any {P : Program} (w : World) (ty : TypeId) (it bm since c0 : Nat) (seen : Array Nat) (es : Array MapEntry) (clock : Nat) (hi : w.heap[it]? = some (.mapIter (some bm) since seen c0)) (hb : w.heap[bm]? = some (.map es clock)) (hold : ∀ x ∈ es.toList, x.born < since) (hsc : since ≤ c0) :
    ((leftOf es seen).size = 0 ∧ (Instr.next (.pointer (some ⟨it, 0, none⟩)) false ty).run P w = .ok (.tuple #[.bool false]) w) ∨
    ∃ e ∈ (leftOf es seen).toList, ∃ w1 : World, (w1 = w ∨ w1 = w.drew) ∧ (Instr.next (.pointer (some ⟨it, 0, none⟩)) false ty).run P w = .ok (.tuple #[.bool true, e.key, e.val]) (layB w1 it (.mapIter (some bm) since (seen.push e.born) clock)) := by
  simp only [Instr.next, getObj, Sem.run_bind, Sem.run, hi, hb, Result.andThen, next_test_false seen es since c0 hold hsc, Bool.false_eq_true, if_false]
  unfold leftOf
  have hmem : ∀ x ∈ (Array.filter (fun e => !seen.contains e.born) es).toList, x.born < since := fun x hx => hold x (by simp at hx ⊢; exact hx.1)
  generalize Array.filter (fun e => !seen.contains e.born) es = L at hmem ⊢
  have e1 : L.filter (fun x => decide (x.born < since)) = L := Array.filter_eq_self.2 (fun x hx => by simpa using hmem x (by simpa using hx))
  have e2 : L.filter (fun x => decide (x.born ≥ since)) = #[] := by
    rw [Array.filter_eq_empty_iff]
    intro x hx
    have := hmem x (by simpa using hx)
    simp
    omega
  simp only [e1, e2, Array.append_empty]
  by_cases h0 : L.size = 0
  · left
    have : L = #[] := Array.eq_empty_of_size_eq_zero h0
    subst this
    refine ⟨rfl, ?_⟩
    simp [choose, Sem.run, Question.forced]
  · right
    have hne : L.isEmpty = false := by simp [Array.isEmpty, h0]
    simp only [hne, Bool.false_eq_true, if_false, Array.empty_append, Array.size_map]
    have hch : ∃ (j : Nat) (w1 : World), j < L.size ∧ (w1 = w ∨ w1 = w.drew) ∧ (choose (Question.mapNext L.size)).run P w = .ok j w1 := by
      by_cases hf : L.size ≤ 1
      · exact ⟨0, w, by omega, .inl rfl, by simp [choose, Sem.run, Question.forced, hf]⟩
      · exact ⟨_, w.drew, Nat.mod_lt _ (by omega), .inr rfl, by
          simp only [choose, Sem.run, Question.forced, decide_eq_true_eq, hf, if_false, Question.cut]
          rfl⟩
    obtain ⟨j, w1, hj, hal, hrun⟩ := hch
    refine ⟨L[j], by simp, w1, hal, ?_⟩
    have hi1 : w1.heap[it]? = some (.mapIter (some bm) since seen c0) := by rcases hal with rfl | rfl <;> exact hi
    have hset : ∀ (o' : Obj), (setObj it o').run P w1 = .ok () (layB w1 it o') := fun o' => by
      simp only [setObj, Sem.run, hi1]
      rfl
    simp only [hrun, Array.getElem?_map, Array.getElem?_eq_getElem hj, Option.map_some, Sem.run_bind, hset, Result.andThen]
    rfl
theorem run_entry_any {P : Program} (w : World) (it bm since : Nat) (seen : Array Nat) (es : Array MapEntry) (clock : Nat) (e : MapEntry) (hi : w.heap[it]? = some (.mapIter (some bm) since (seen.push e.born) clock)) (hb : w.heap[bm]? = some (.map es clock)) (he : e ∈ es.toList) (hn : (es.toList.map (·.born)).Nodup) :
    (Instr.entry (.pointer (some ⟨it, 0, none⟩))).run P w = .ok (.tuple #[e.key, e.val]) w := by
  have hf : es.find? (·.born == e.born) = some e := by rw [← Array.find?_toList]; exact find_born e es.toList hn he
  simp only [Instr.entry, getObj, Sem.run_bind, Sem.run, hi, hb, Result.andThen, Array.back?_push, bne_self_eq_false, Bool.false_eq_true, if_false, hf]
  rfl

/-- What is asked of one entry. -/
def passV (ks : List ByteArray) (vs : List JV) (k : ByteArray) (y : JV) : Bool := match getV ks vs k with
  | some x => holdsV x y
  | none => false
theorem holdsM_cons (ks : List ByteArray) (vs : List JV) (k : ByteArray) (y : JV) (r : List ByteArray) (s : List JV) : holdsM ks vs (k :: r) (y :: s) = (passV ks vs k y && holdsM ks vs r s) := by
  conv => lhs; unfold holdsM
  rfl
theorem holdsM_true {ks : List ByteArray} {vs : List JV} : ∀ {r : List ByteArray} {s : List JV}, (∀ i (h1 : i < r.length) (h2 : i < s.length), passV ks vs r[i] s[i] = true) → holdsM ks vs r s = true
  | [], _, _ => by unfold holdsM; rfl
  | _ :: _, [], _ => by unfold holdsM; rfl
  | k :: r, y :: s, h => by
    rw [holdsM_cons, h 0 (by simp) (by simp) |> fun e => (show passV ks vs k y = true from e), holdsM_true (r := r) (s := s) fun i h1 h2 => h (i + 1) (by simpa using h1) (by simpa using h2)]
    rfl
theorem holdsM_false {ks : List ByteArray} {vs : List JV} : ∀ {r : List ByteArray} {s : List JV} (i : Nat) (h1 : i < r.length) (h2 : i < s.length), passV ks vs r[i] s[i] = false → holdsM ks vs r s = false
  | [], _, i, h1, _, _ => absurd h1 (by simp)
  | _ :: _, [], i, _, h2, _ => absurd h2 (by simp)
  | k :: r, y :: s, 0, _, _, h => by rw [holdsM_cons, show passV ks vs k y = false from h]; rfl
  | k :: r, y :: s, i + 1, h1, h2, h => by
    rw [holdsM_cons, holdsM_false (r := r) (s := s) i (by simpa using h1) (by simpa using h2) h, Bool.and_false]

theorem len_le {α : Type} [DecidableEq α] : ∀ (a b : List α), a.Nodup → (∀ x ∈ a, x ∈ b) → a.length ≤ b.length
  | [], _, _, _ => by simp
  | x :: a, b, hn, hs => by
    have h1 : x ∉ a ∧ a.Nodup := List.nodup_cons.1 hn
    have h2 := len_le a (b.erase x) h1.2 fun y hy => (List.mem_erase_of_ne (fun (e : y = x) => h1.1 (by rw [← e]; exact hy))).2 (hs y (by simp [hy]))
    have h3 : x ∈ b := hs x (by simp)
    have h4 := List.length_erase_of_mem h3
    have h5 : 0 < b.length := List.length_pos_of_mem h3
    simp; omega
theorem rising_nodup : ∀ {ks : List ByteArray} {p : Option ByteArray}, Rising p ks → (ks.map (·.toList)).Nodup
  | [], _, _ => by simp
  | k :: r, p, h => by
    unfold Rising at h
    rw [List.map_cons, List.nodup_cons]
    refine ⟨fun hm => ?_, rising_nodup h.2⟩
    obtain ⟨y, hy, e⟩ := List.mem_map.1 hm
    have := keyLt_ne (rising_all h.2 y hy)
    rw [e] at this
    simp at this
/-- More keys than there are: one of them is missing. -/
theorem holdsM_short {ks ks' : List ByteArray} {vs vs' : List JV} (hr : Rising none ks') (hl : ks'.length = vs'.length) (h : ks.length < ks'.length) : holdsM ks vs ks' vs' = false := by
  cases hc : holdsM ks vs ks' vs' with
  | false => rfl
  | true =>
    have h1 : ∀ x ∈ ks'.map (·.toList), x ∈ ks.map (·.toList) := by
      intro x hx
      obtain ⟨k, hk, rfl⟩ := List.mem_map.1 hx
      obtain ⟨i, hi, rfl⟩ := List.mem_iff_getElem.1 hk
      by_cases hm : ks'[i].toList ∈ ks.map (·.toList)
      · exact hm
      · have hn : getV ks vs ks'[i] = none := getV_none fun k2 hk2 => by
          cases he : k2.toList == ks'[i].toList with
          | false => rfl
          | true => exact absurd (List.mem_map.2 ⟨k2, hk2, beq_iff_eq.1 he⟩) hm
        have := holdsM_false (ks := ks) (vs := vs) (r := ks') (s := vs') i hi (by omega) (by unfold passV; rw [hn])
        rw [hc] at this; cases this
    have h2 := len_le _ _ (rising_nodup hr) h1
    simp at h2
    omega
end Go.Proofs.YtmjegeipnaalnaaGreatDoor
