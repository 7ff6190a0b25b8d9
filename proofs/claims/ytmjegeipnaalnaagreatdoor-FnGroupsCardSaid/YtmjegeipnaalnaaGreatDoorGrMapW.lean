/- Go's maps with rising keys of text: making, laying an entry, looking one up, going through all; and the law of containment over maps. Values set at two paths of which neither is the beginning of the other one: the plain law, on trees, with no program in sight. Go values that stand for trees, the entries of a map in whatever order: what it means, and how a map is read. Values of the thin package whose slices lie in blocks of a set: so that other blocks may turn. -/
import Derived.Test.YtmjegeipnaalnaaGreatDoorGrFlo
import Derived.Laws.IdiomRangeMap
import Derived.MapKept
import Derived.Test.YtmjegeipnaalnaaGreatDoorGrFind
import Derived.Test.YtmjegeipnaalnaaGreatDoorGrRep

/- Go's maps with rising keys of text: making, laying an entry, looking one up, going through all; and the law of containment over maps. -/
namespace Go.Proofs.YtmjegeipnaalnaaGreatDoor
open Go.RowKit

theorem ba_ext {a b : ByteArray} (h : a.toList = b.toList) : a = b := by
  rw [Lib.toList_data, Lib.toList_data] at h
  cases a; cases b
  simp at h
  simp [h]
theorem ba_beq (a b : ByteArray) : (a == b) = (a.toList == b.toList) := by
  have hd : (a == b) = decide (a = b) := by
    have h0 : (a == b) = (a.data == b.data) := by cases a; cases b; rfl
    rw [h0]
    by_cases e : a = b
    · subst e; simp
    · have h1 : a.data ≠ b.data := fun h => e (by cases a; cases b; simpa using h)
      rw [decide_eq_false e]; simpa using h1
  by_cases e : a = b
  · subst e; rw [hd]; simp
  · have h1 : (a == b) = false := by rw [hd]; simpa using e
    have h2 : (a.toList == b.toList) = false := by
      cases hc : a.toList == b.toList with
      | false => rfl
      | true => exact absurd (ba_ext (beq_iff_eq.1 hc)) e
    rw [h1, h2]

/-- The look for a key among entries: what it finds is what the tree has there. -/
theorem find_look {w : World} {lo B : Nat} (x : ByteArray) : ∀ (ks : List ByteArray) (vs : List JV) (es : List MapEntry) (i : Nat), es.map (·.key) = ks.map Value.string → GVals w lo B vs (es.map (·.val)) → ks.length = vs.length →
    (getV ks vs x = none ∧ Instr.findNow .string (.string x) es i = some none) ∨ (∃ y c j, getV ks vs x = some y ∧ Instr.findNow .string (.string x) es i = some (some (j, c)) ∧ GRep w lo B y c)
  | [], _, [], _, _, _, _ => .inl ⟨by unfold getV; rfl, rfl⟩
  | [], _, _ :: _, _, h, _, _ => absurd h (by simp)
  | _ :: _, _, [], _, h, _, _ => absurd h (by simp)
  | _ :: _, [], _ :: _, _, _, _, h => absurd h (by simp)
  | k :: ks, v :: vs, e :: es, i, h1, h2, h3 => by
    simp only [List.map_cons, List.cons.injEq] at h1
    obtain ⟨hk, h1⟩ := h1
    rw [List.map_cons] at h2
    unfold GVals at h2
    obtain ⟨c, cs', hc, h4, h5⟩ := h2
    simp only [List.cons.injEq] at hc
    obtain ⟨rfl, rfl⟩ := hc
    have hs : Instr.sameNow .string (.string x) e.key = some (k.toList == x.toList) := by
      rw [hk]; show some (x == k) = _; rw [ba_beq, Bool.beq_comm]
    cases he : k.toList == x.toList with
    | true =>
      refine .inr ⟨v, e.val, i, ?_, ?_, h4⟩
      · unfold getV; rw [he]; simp
      · unfold Instr.findNow; rw [hs, he]
    | false =>
      have g1 : getV (k :: ks) (v :: vs) x = getV ks vs x := by conv => lhs; unfold getV; rw [he]; simp only [Bool.false_eq_true, if_false]
      have g2 : Instr.findNow .string (.string x) (e :: es) i = Instr.findNow .string (.string x) es (i + 1) := by conv => lhs; unfold Instr.findNow; rw [hs, he]
      rw [g1, g2]
      exact find_look x ks vs es (i + 1) h1 h5 (by simpa using h3)

/-- A world with one block turned. -/
def layB (w : World) (r : Nat) (o : Obj) : World := { w with heap := w.heap.setIfInBounds r o }
theorem layB_at {w : World} {r : Nat} {o o' : Obj} (h : w.heap[r]? = some o') : (layB w r o).heap[r]? = some o := by
  have hlt := (Array.getElem?_eq_some_iff.1 h).1
  simp [layB, hlt]
theorem layB_other (w : World) {r k : Nat} (o : Obj) (h : k ≠ r) : (layB w r o).heap[k]? = w.heap[k]? := by
  simp [layB, h.symm]
@[simp] theorem layB_size (w : World) (r : Nat) (o : Obj) : (layB w r o).heap.size = w.heap.size := by simp [layB]
theorem Below.lay {B r : Nat} {a w : World} (h : Below B a w) (hr : B ≤ r) (o : Obj) : Below B a (layB w r o) :=
  ⟨h.os, h.tape, h.output, by simpa using h.size, fun k hk => (layB_other w o (by omega)).trans (h.block k hk)⟩

theorem run_update {P : Program} {mty kt et : TypeId} {w : World} {r : Nat} {s : ByteArray} {val : Value} {es : Array MapEntry} {clock : Nat} (hm : P.underlying mty = some (.map kt et)) (hk : P.underlying kt = some .string) (hb : w.heap[r]? = some (.map es clock))
    (hf : Instr.findNow .string (.string s) es.toList 0 = some none) :
    (Instr.mapUpdate mty (.map (some r)) (.string s) val).run P w = .ok () (layB w r (.map (es.push { key := .string s, val := val, born := clock }) (clock + 1))) := by
  have hc : (Instr.checkKey false 10000 kt (.string s)).run P w = .ok () w := MapKept.run_checkKey (k := .string s) hk (by simp [MapKept.IsKey]) false 9999
  simp [Instr.mapUpdate, run_underlying hm, MapKept.run_getObj_map hb, hc, MapKept.run_findKey hk hf, MapKept.run_setObj_map _ hb, Result.andThen, layB]

theorem run_look_none {P : Program} {mty kt et : TypeId} {w : World} {r : Nat} {s : ByteArray} {es : Array MapEntry} {clock : Nat} {z : Value} (hm : P.underlying mty = some (.map kt et)) (hk : P.underlying kt = some .string) (hz : (zeroValue et).run P w = .ok z w) (hb : w.heap[r]? = some (.map es clock))
    (hf : Instr.findNow .string (.string s) es.toList 0 = some none) :
    (Instr.lookup mty (.map (some r)) (.string s) true).run P w = .ok (.tuple #[z, .bool false]) w := by
  have hc : ∀ e, (Instr.checkKey e 10000 kt (.string s)).run P w = .ok () w := fun e => MapKept.run_checkKey (k := .string s) hk (by simp [MapKept.IsKey]) e 9999
  simp [Instr.lookup, run_underlying hm, MapKept.run_getObj_map hb, hc, MapKept.run_findKey hk hf, hz, Result.andThen]
theorem run_look_some {P : Program} {mty kt et : TypeId} {w : World} {r : Nat} {s : ByteArray} {es : Array MapEntry} {clock : Nat} {j : Nat} {c : Value} (hm : P.underlying mty = some (.map kt et)) (hk : P.underlying kt = some .string) (hb : w.heap[r]? = some (.map es clock))
    (hf : Instr.findNow .string (.string s) es.toList 0 = some (some (j, c))) :
    (Instr.lookup mty (.map (some r)) (.string s) true).run P w = .ok (.tuple #[c, .bool true]) w := by
  have hc : ∀ e, (Instr.checkKey e 10000 kt (.string s)).run P w = .ok () w := fun e => MapKept.run_checkKey (k := .string s) hk (by simp [MapKept.IsKey]) e 9999
  simp [Instr.lookup, run_underlying hm, MapKept.run_getObj_map hb, hc, MapKept.run_findKey hk hf, Result.andThen]

/-- 'next' over a map that stays as it was, the iterator's block anywhere. -/
theorem run_next_any {P : Program} (w : World) (ty : TypeId) (it bm since c0 : Nat) (seen : Array Nat) (es : Array MapEntry) (clock : Nat) (hi : w.heap[it]? = some (.mapIter (some bm) since seen c0)) (hb : w.heap[bm]? = some (.map es clock)) (hold : ∀ x ∈ es.toList, x.born < since) (hsc : since ≤ c0) :
    ((leftOf es seen).size = 0 ∧ (Instr.next (.pointer (some ⟨it, 0, none⟩)) false ty).run P w = .ok (.tuple #[.bool false]) w) ∨
    ∃ e ∈ (leftOf es seen).toList, ∃ w1 : World, (w1 = w ∨ w1 = w.drew) ∧ (Instr.next (.pointer (some ⟨it, 0, none⟩)) false ty).run P w = .ok (.tuple #[.bool true, e.key, e.val]) (layB w1 it (.mapIter (some bm) since (seen.push e.born) clock)) := by
  simp only [Instr.next, getObj, Sem.run_bind, Sem.run, hi, hb, Result.andThen, next_test_false seen es since c0 hold hsc, Bool.false_eq_true, if_false]
  unfold leftOf
  have hmem : ∀ x ∈ (Array.filter (fun e => !seen.contains e.born) es).toList, x.born < since := fun x hx => hold x (by simp at hx ⊢; exact hx.1)
  generalize Array.filter (fun e => !seen.contains e.born) es = L at hmem ⊢
  have e1 : L.filter (fun x => decide (x.born < since)) = L := Array.filter_eq_self.2 (fun x hx => by simpa using hmem x (by simpa using hx))
  have e2 : L.filter (fun x => decide (x.born ≥ since)) = #[] := by
    rw [Array.filter_eq_empty_iff]
    intro x hx
    have := hmem x (by simpa using hx)
    simp
    omega
  simp only [e1, e2, Array.append_empty]
  by_cases h0 : L.size = 0
  · left
    have : L = #[] := Array.eq_empty_of_size_eq_zero h0
    subst this
    refine ⟨rfl, ?_⟩
    simp [choose, Sem.run, Question.forced]
  · right
    have hne : L.isEmpty = false := by simp [Array.isEmpty, h0]
    simp only [hne, Bool.false_eq_true, if_false, Array.empty_append, Array.size_map]
    have hch : ∃ (j : Nat) (w1 : World), j < L.size ∧ (w1 = w ∨ w1 = w.drew) ∧ (choose (Question.mapNext L.size)).run P w = .ok j w1 := by
      by_cases hf : L.size ≤ 1
      · exact ⟨0, w, by omega, .inl rfl, by simp [choose, Sem.run, Question.forced, hf]⟩
      · exact ⟨_, w.drew, Nat.mod_lt _ (by omega), .inr rfl, by
          simp only [choose, Sem.run, Question.forced, decide_eq_true_eq, hf, if_false, Question.cut]
          rfl⟩
    obtain ⟨j, w1, hj, hal, hrun⟩ := hch
    refine ⟨L[j], by simp, w1, hal, ?_⟩
    have hi1 : w1.heap[it]? = some (.mapIter (some bm) since seen c0) := by rcases hal with rfl | rfl <;> exact hi
    have hset : ∀ (o' : Obj), (setObj it o').run P w1 = .ok () (layB w1 it o') := fun o' => by
      simp only [setObj, Sem.run, hi1]
      rfl
    simp only [hrun, Array.getElem?_map, Array.getElem?_eq_getElem hj, Option.map_some, Sem.run_bind, hset, Result.andThen]
    rfl
theorem run_entry_any {P : Program} (w : World) (it bm since : Nat) (seen : Array Nat) (es : Array MapEntry) (clock : Nat) (e : MapEntry) (hi : w.heap[it]? = some (.mapIter (some bm) since (seen.push e.born) clock)) (hb : w.heap[bm]? = some (.map es clock)) (he : e ∈ es.toList) (hn : (es.toList.map (·.born)).Nodup) :
    (Instr.entry (.pointer (some ⟨it, 0, none⟩))).run P w = .ok (.tuple #[e.key, e.val]) w := by
  have hf : es.find? (·.born == e.born) = some e := by rw [← Array.find?_toList]; exact find_born e es.toList hn he
  simp only [Instr.entry, getObj, Sem.run_bind, Sem.run, hi, hb, Result.andThen, Array.back?_push, bne_self_eq_false, Bool.false_eq_true, if_false, hf]
  rfl

/-- What is asked of one entry. -/
def passV (ks : List ByteArray) (vs : List JV) (k : ByteArray) (y : JV) : Bool := match getV ks vs k with
  | some x => holdsV x y
  | none => false
theorem holdsM_cons (ks : List ByteArray) (vs : List JV) (k : ByteArray) (y : JV) (r : List ByteArray) (s : List JV) : holdsM ks vs (k :: r) (y :: s) = (passV ks vs k y && holdsM ks vs r s) := by
  conv => lhs; unfold holdsM
  rfl
theorem holdsM_true {ks : List ByteArray} {vs : List JV} : ∀ {r : List ByteArray} {s : List JV}, (∀ i (h1 : i < r.length) (h2 : i < s.length), passV ks vs r[i] s[i] = true) → holdsM ks vs r s = true
  | [], _, _ => by unfold holdsM; rfl
  | _ :: _, [], _ => by unfold holdsM; rfl
  | k :: r, y :: s, h => by
    rw [holdsM_cons, h 0 (by simp) (by simp) |> fun e => (show passV ks vs k y = true from e), holdsM_true (r := r) (s := s) fun i h1 h2 => h (i + 1) (by simpa using h1) (by simpa using h2)]
    rfl
theorem holdsM_false {ks : List ByteArray} {vs : List JV} : ∀ {r : List ByteArray} {s : List JV} (i : Nat) (h1 : i < r.length) (h2 : i < s.length), passV ks vs r[i] s[i] = false → holdsM ks vs r s = false
  | [], _, i, h1, _, _ => absurd h1 (by simp)
  | _ :: _, [], i, _, h2, _ => absurd h2 (by simp)
  | k :: r, y :: s, 0, _, _, h => by rw [holdsM_cons, show passV ks vs k y = false from h]; rfl
  | k :: r, y :: s, i + 1, h1, h2, h => by
    rw [holdsM_cons, holdsM_false (r := r) (s := s) i (by simpa using h1) (by simpa using h2) h, Bool.and_false]

theorem len_le {α : Type} [DecidableEq α] : ∀ (a b : List α), a.Nodup → (∀ x ∈ a, x ∈ b) → a.length ≤ b.length
  | [], _, _, _ => by simp
  | x :: a, b, hn, hs => by
    have h1 : x ∉ a ∧ a.Nodup := List.nodup_cons.1 hn
    have h2 := len_le a (b.erase x) h1.2 fun y hy => (List.mem_erase_of_ne (fun (e : y = x) => h1.1 (by rw [← e]; exact hy))).2 (hs y (by simp [hy]))
    have h3 : x ∈ b := hs x (by simp)
    have h4 := List.length_erase_of_mem h3
    have h5 : 0 < b.length := List.length_pos_of_mem h3
    simp; omega
theorem rising_nodup : ∀ {ks : List ByteArray} {p : Option ByteArray}, Rising p ks → (ks.map (·.toList)).Nodup
  | [], _, _ => by simp
  | k :: r, p, h => by
    unfold Rising at h
    rw [List.map_cons, List.nodup_cons]
    refine ⟨fun hm => ?_, rising_nodup h.2⟩
    obtain ⟨y, hy, e⟩ := List.mem_map.1 hm
    have := keyLt_ne (rising_all h.2 y hy)
    rw [e] at this
    simp at this
/-- More keys than there are: one of them is missing. -/
theorem holdsM_short {ks ks' : List ByteArray} {vs vs' : List JV} (hr : Rising none ks') (hl : ks'.length = vs'.length) (h : ks.length < ks'.length) : holdsM ks vs ks' vs' = false := by
  cases hc : holdsM ks vs ks' vs' with
  | false => rfl
  | true =>
    have h1 : ∀ x ∈ ks'.map (·.toList), x ∈ ks.map (·.toList) := by
      intro x hx
      obtain ⟨k, hk, rfl⟩ := List.mem_map.1 hx
      obtain ⟨i, hi, rfl⟩ := List.mem_iff_getElem.1 hk
      by_cases hm : ks'[i].toList ∈ ks.map (·.toList)
      · exact hm
      · have hn : getV ks vs ks'[i] = none := getV_none fun k2 hk2 => by
          cases he : k2.toList == ks'[i].toList with
          | false => rfl
          | true => exact absurd (List.mem_map.2 ⟨k2, hk2, beq_iff_eq.1 he⟩) hm
        have := holdsM_false (ks := ks) (vs := vs) (r := ks') (s := vs') i hi (by omega) (by unfold passV; rw [hn])
        rw [hc] at this; cases this
    have h2 := len_le _ _ (rising_nodup hr) h1
    simp at h2
    omega
end Go.Proofs.YtmjegeipnaalnaaGreatDoor

/- Values set at two paths of which neither is the beginning of the other one: the plain law, on trees, with no program in sight. -/
namespace Go.Proofs.YtmjegeipnaalnaaGreatDoor

/-- One step of a path. -/
inductive Step where
  | key (k : ByteArray)
  | idx (i : Nat)
  deriving DecidableEq

def nullT : JV := .mk 0 0 ⟨#[]⟩ [] [] []
def listT (l : List JV) : JV := .mk 5 0 ⟨#[]⟩ l [] []
def mapT (ks : List ByteArray) (vs : List JV) : JV := .mk 6 0 ⟨#[]⟩ [] ks vs

def insK : List ByteArray → ByteArray → List ByteArray
  | [], x => [x]
  | k :: ks, x => if k.toList == x.toList then k :: ks else if keyLt x k then x :: k :: ks else k :: insK ks x
def insV : List ByteArray → List JV → ByteArray → JV → List JV
  | k :: ks, v :: vs, x, u => if k.toList == x.toList then u :: vs else if keyLt x k then u :: v :: vs else v :: insV ks vs x u
  | _, _, _, u => [u]
def setL : List JV → Nat → JV → List JV
  | [], 0, u => [u]
  | [], i + 1, u => nullT :: setL [] i u
  | _ :: r, 0, u => u :: r
  | y :: r, i + 1, u => y :: setL r i u
def atK (v : JV) (k : ByteArray) : JV := (getV v.keys v.vals k).getD nullT
def atI (v : JV) (i : Nat) : JV := v.list[i]?.getD nullT

/-- A value with another one at a path; none: it cannot be. -/
def setT : List Step → JV → JV → Option JV
  | [], x, _ => some x
  | .key k :: p, x, v => if v.kind = 0 ∨ v.kind = 6 then (setT p x (atK v k)).map fun u => mapT (insK v.keys k) (insV v.keys v.vals k u) else none
  | .idx i :: p, x, v => if v.kind = 0 ∨ v.kind = 5 then (setT p x (atI v i)).map fun u => listT (setL v.list i u) else none
/-- What stands at a path; none: it cannot be gone. -/
def getT : List Step → JV → Option JV
  | [], v => some v
  | .key k :: p, v => if v.kind = 0 ∨ v.kind = 6 then getT p (atK v k) else none
  | .idx i :: p, v => if v.kind = 0 ∨ v.kind = 5 then getT p (atI v i) else none
/-- Neither path is the beginning of the other one. -/
def apartT : List Step → List Step → Bool
  | a :: p, b :: q => if a = b then apartT p q else true
  | _, _ => false

theorem ba_ext' {a b : ByteArray} (h : a.toList = b.toList) : a = b := by
  rw [Lib.toList_data, Lib.toList_data] at h
  cases a; cases b
  simp at h
  simp [h]
theorem keyLt_asymm {a b : ByteArray} (h : keyLt a b = true) : keyLt b a = false := by
  cases hc : keyLt b a with
  | false => rfl
  | true =>
    have h2 : keyLt a a = true := bl_trans h hc
    unfold keyLt at h2
    rw [bl_irrefl] at h2
    cases h2
theorem tri (a b : ByteArray) : a = b ∨ (keyLt a b = true ∧ keyLt b a = false ∧ (a.toList == b.toList) = false ∧ (b.toList == a.toList) = false ∧ a ≠ b) ∨ (keyLt b a = true ∧ keyLt a b = false ∧ (a.toList == b.toList) = false ∧ (b.toList == a.toList) = false ∧ a ≠ b) := by
  by_cases h : a = b
  · exact .inl h
  · have ne : (a.toList == b.toList) = false := by
      cases hc : a.toList == b.toList with
      | false => rfl
      | true => exact absurd (ba_ext' (beq_iff_eq.1 hc)) h
    have ne2 : (b.toList == a.toList) = false := by rw [Bool.beq_comm]; exact ne
    cases hl : keyLt a b with
    | true => exact .inr (.inl ⟨rfl, keyLt_asymm hl, ne, ne2, h⟩)
    | false =>
      have : keyLt b a = true := bl_total hl (fun e => by rw [e] at ne; simp at ne)
      exact .inr (.inr ⟨this, rfl, ne, ne2, h⟩)
theorem keyLt_trans {a b c : ByteArray} (h1 : keyLt a b = true) (h2 : keyLt b c = true) : keyLt a c = true := bl_trans h1 h2

theorem ins_length : ∀ {ks : List ByteArray} {vs : List JV} (x : ByteArray) (u : JV), ks.length = vs.length → (insK ks x).length = (insV ks vs x u).length
  | [], [], _, _, _ => rfl
  | [], _ :: _, _, _, h => absurd h (by simp)
  | _ :: _, [], _, _, h => absurd h (by simp)
  | k :: ks, v :: vs, x, u, h => by
    have h' : ks.length = vs.length := by simpa using h
    unfold insK insV
    split
    · simpa using h
    · split
      · simpa using h
      · simpa using ins_length x u h'
theorem getV_ins (x y : ByteArray) (u : JV) : ∀ {ks : List ByteArray} {vs : List JV}, ks.length = vs.length → getV (insK ks x) (insV ks vs x u) y = if x.toList == y.toList then some u else getV ks vs y
  | [], [], _ => by simp [insK, insV, getV]
  | [], _ :: _, h => absurd h (by simp)
  | _ :: _, [], h => absurd h (by simp)
  | k :: ks, v :: vs, h => by
    have h' : ks.length = vs.length := by simpa using h
    unfold insK insV
    by_cases e : (k.toList == x.toList) = true
    · rw [if_pos e, if_pos e]
      have e2 : k = x := ba_ext' (beq_iff_eq.1 e)
      subst e2
      by_cases e3 : (k.toList == y.toList) = true
      · rw [if_pos e3]; unfold getV; rw [if_pos e3]
      · rw [if_neg e3]; unfold getV; rw [if_neg e3, if_neg e3]
    · rw [if_neg e, if_neg e]
      by_cases e3 : keyLt x k = true
      · rw [if_pos e3, if_pos e3]
        conv => lhs; unfold getV
      · rw [if_neg e3, if_neg e3]
        conv => lhs; unfold getV
        conv => rhs; unfold getV
        rw [getV_ins x y u h']
        by_cases e4 : (k.toList == y.toList) = true
        · rw [if_pos e4, if_pos e4]
          have e5 : (x.toList == y.toList) = false := by
            cases hc : x.toList == y.toList with
            | false => rfl
            | true => rw [beq_iff_eq.1 hc] at e; exact absurd e4 e
          rw [e5]; simp
        · rw [if_neg e4, if_neg e4]
theorem ins_same (x : ByteArray) (u z : JV) : ∀ {ks : List ByteArray} {vs : List JV}, ks.length = vs.length → insK (insK ks x) x = insK ks x ∧ insV (insK ks x) (insV ks vs x u) x z = insV ks vs x z
  | [], [], _ => by simp [insK, insV]
  | [], _ :: _, h => absurd h (by simp)
  | _ :: _, [], h => absurd h (by simp)
  | k :: ks, v :: vs, h => by
    have h' : ks.length = vs.length := by simpa using h
    have ih := ins_same x u z h'
    rcases tri k x with rfl | ⟨h1, h2, h3, h4, _⟩ | ⟨h1, h2, h3, h4, _⟩
    · simp [insK, insV]
    · simp [insK, insV, h2, h3, ih.1, ih.2]
    · simp [insK, insV, h1, h3]
theorem ins_comm (x y : ByteArray) (u z : JV) (hxy : x ≠ y) : ∀ {ks : List ByteArray} {vs : List JV}, ks.length = vs.length →
    insK (insK ks x) y = insK (insK ks y) x ∧ insV (insK ks x) (insV ks vs x u) y z = insV (insK ks y) (insV ks vs y z) x u
  | [], [], _ => by
    rcases tri x y with e | ⟨h1, h2, h3, h4, _⟩ | ⟨h1, h2, h3, h4, _⟩
    · exact absurd e hxy
    · simp [insK, insV, h1, h2, h3, h4]
    · simp [insK, insV, h1, h2, h3, h4]
  | [], _ :: _, h => absurd h (by simp)
  | _ :: _, [], h => absurd h (by simp)
  | k :: ks, v :: vs, h => by
    have h' : ks.length = vs.length := by simpa using h
    have ih := ins_comm x y u z hxy h'
    rcases tri x y with e | ⟨a1, a2, a3, a4, _⟩ | ⟨a1, a2, a3, a4, _⟩
    · exact absurd e hxy
    all_goals
      rcases tri k x with rfl | ⟨b1, b2, b3, b4, _⟩ | ⟨b1, b2, b3, b4, _⟩ <;> rcases tri k y with rfl | ⟨c1, c2, c3, c4, _⟩ | ⟨c1, c2, c3, c4, _⟩
      all_goals first
        | (simp_all [insK, insV]; done)
        | (exfalso; have q := keyLt_trans c1 b1; simp_all; done)
        | (exfalso; have q := keyLt_trans b1 c1; simp_all; done)
        | (exfalso; have q := keyLt_trans b1 a1; simp_all; done)
        | (exfalso; have q := keyLt_trans c1 a1; simp_all; done)
        | (exfalso; have q := keyLt_trans a1 b1; simp_all; done)
        | (exfalso; have q := keyLt_trans a1 c1; simp_all; done)

theorem getL_set : ∀ (l : List JV) (i : Nat) (u : JV), (setL l i u)[i]?.getD nullT = u
  | [], 0, u => by simp [setL]
  | [], i + 1, u => by simpa [setL] using getL_set [] i u
  | _ :: r, 0, u => by simp [setL]
  | y :: r, i + 1, u => by simpa [setL] using getL_set r i u
theorem getL_other : ∀ (l : List JV) (i j : Nat) (u : JV), i ≠ j → (setL l i u)[j]?.getD nullT = l[j]?.getD nullT
  | [], 0, 0, _, h => absurd rfl h
  | [], 0, j + 1, u, _ => by simp [setL]
  | [], i + 1, 0, u, _ => by simp [setL]
  | [], i + 1, j + 1, u, h => by simpa [setL] using getL_other [] i j u (by omega)
  | _ :: r, 0, 0, _, h => absurd rfl h
  | _ :: r, 0, j + 1, u, _ => by simp [setL]
  | y :: r, i + 1, 0, u, _ => by simp [setL]
  | y :: r, i + 1, j + 1, u, h => by simpa [setL] using getL_other r i j u (by omega)
theorem setL_same : ∀ (l : List JV) (i : Nat) (u z : JV), setL (setL l i u) i z = setL l i z
  | [], 0, _, _ => by simp [setL]
  | [], i + 1, u, z => by simp [setL, setL_same [] i u z]
  | _ :: r, 0, _, _ => by simp [setL]
  | y :: r, i + 1, u, z => by simp [setL, setL_same r i u z]
theorem setL_comm : ∀ (l : List JV) (i j : Nat) (u z : JV), i ≠ j → setL (setL l i u) j z = setL (setL l j z) i u
  | [], 0, 0, _, _, h => absurd rfl h
  | [], 0, j + 1, u, z, _ => by simp [setL]
  | [], i + 1, 0, u, z, _ => by simp [setL]
  | [], i + 1, j + 1, u, z, h => by simp [setL, setL_comm [] i j u z (by omega)]
  | _ :: r, 0, 0, _, _, h => absurd rfl h
  | _ :: r, 0, j + 1, u, z, _ => by simp [setL]
  | y :: r, i + 1, 0, u, z, _ => by simp [setL]
  | y :: r, i + 1, j + 1, u, z, h => by simp [setL, setL_comm r i j u z (by omega)]

mutual
/-- As many keys as values, all the way down. -/
def Even : JV → Prop
  | .mk _ _ _ l ks vs => ks.length = vs.length ∧ EvenL l ∧ EvenL vs
def EvenL : List JV → Prop
  | [] => True
  | x :: r => Even x ∧ EvenL r
end
theorem EvenL.get : ∀ {l : List JV}, EvenL l → ∀ x ∈ l, Even x
  | [], _, x, hx => by simp at hx
  | y :: r, h, x, hx => by
    unfold EvenL at h
    rcases List.mem_cons.1 hx with e | e
    · exact e ▸ h.1
    · exact EvenL.get h.2 x e
theorem even_null : Even nullT := by unfold nullT Even EvenL; exact ⟨rfl, trivial, trivial⟩
theorem Even.len {v : JV} (h : Even v) : v.keys.length = v.vals.length := by cases v; unfold Even at h; exact h.1
theorem even_getV : ∀ {ks : List ByteArray} {vs : List JV} {k : ByteArray}, EvenL vs → Even ((getV ks vs k).getD nullT)
  | [], _, _, _ => by unfold getV; exact even_null
  | _ :: _, [], _, _ => by unfold getV; exact even_null
  | a :: ks, v :: vs, k, h => by
    unfold EvenL at h
    unfold getV
    split
    · exact h.1
    · exact even_getV h.2
theorem even_atK {v : JV} (h : Even v) (k : ByteArray) : Even (atK v k) := by
  cases v; unfold Even at h; exact even_getV h.2.2
theorem even_atI {v : JV} (h : Even v) (i : Nat) : Even (atI v i) := by
  cases v
  unfold Even at h
  unfold atI
  simp only [JV.list]
  rename_i l _ _
  cases hc : l[i]? with
  | none => exact even_null
  | some y => exact h.2.1.get y (List.mem_of_getElem? hc)

theorem atK_ins (ks : List ByteArray) (vs : List JV) (k : ByteArray) (u : JV) (h : ks.length = vs.length) (j : ByteArray) : atK (mapT (insK ks k) (insV ks vs k u)) j = if k = j then u else (getV ks vs j).getD nullT := by
  unfold atK
  show (getV (insK ks k) (insV ks vs k u) j).getD nullT = _
  rw [getV_ins k j u h]
  by_cases e : k = j
  · subst e; simp
  · have : (k.toList == j.toList) = false := by
      cases hc : k.toList == j.toList with
      | false => rfl
      | true => exact absurd (ba_ext' (beq_iff_eq.1 hc)) e
    rw [this, if_neg e]; rfl

theorem set_key {k : ByteArray} {p : List Step} {x v r : JV} (h : setT (.key k :: p) x v = some r) : (v.kind = 0 ∨ v.kind = 6) ∧ ∃ u, setT p x (atK v k) = some u ∧ r = mapT (insK v.keys k) (insV v.keys v.vals k u) := by
  unfold setT at h
  split at h
  · rename_i hk
    obtain ⟨u, h1, h2⟩ := Option.map_eq_some_iff.1 h
    exact ⟨hk, u, h1, h2.symm⟩
  · cases h
theorem set_idx {i : Nat} {p : List Step} {x v r : JV} (h : setT (.idx i :: p) x v = some r) : (v.kind = 0 ∨ v.kind = 5) ∧ ∃ u, setT p x (atI v i) = some u ∧ r = listT (setL v.list i u) := by
  unfold setT at h
  split at h
  · rename_i hk
    obtain ⟨u, h1, h2⟩ := Option.map_eq_some_iff.1 h
    exact ⟨hk, u, h1, h2.symm⟩
  · cases h
theorem set_key_map (k : ByteArray) (p : List Step) (x : JV) (ks : List ByteArray) (vs : List JV) : setT (.key k :: p) x (mapT ks vs) = (setT p x (atK (mapT ks vs) k)).map fun u => mapT (insK ks k) (insV ks vs k u) := by
  conv => lhs; unfold setT
  rw [if_pos (show (mapT _ _).kind = 0 ∨ (mapT _ _).kind = 6 from Or.inr rfl)]; rfl
theorem set_idx_list (i : Nat) (p : List Step) (x : JV) (l : List JV) : setT (.idx i :: p) x (listT l) = (setT p x (atI (listT l) i)).map fun u => listT (setL l i u) := by
  conv => lhs; unfold setT
  rw [if_pos (show (listT _).kind = 0 ∨ (listT _).kind = 5 from Or.inr rfl)]; rfl

/-- THE LAW: two paths apart may be set in either order. -/
theorem set_comm : ∀ (p q : List Step) (x y v r s : JV), Even v → apartT p q = true → setT p x v = some r → setT q y v = some s → setT q y r = setT p x s
  | [], _, _, _, _, _, _, _, h, _, _ => by simp [apartT] at h
  | _ :: _, [], _, _, _, _, _, _, h, _, _ => by simp [apartT] at h
  | a :: p, b :: q, x, y, v, r, s, he, h, hr, hs => by
    have hlen := he.len
    by_cases e : a = b
    · subst e
      simp only [apartT, if_true] at h
      cases a with
      | key k =>
        obtain ⟨_, u, h1, rfl⟩ := set_key hr
        obtain ⟨_, u', h2, rfl⟩ := set_key hs
        have ih := set_comm p q x y (atK v k) u u' (even_atK he k) h h1 h2
        rw [set_key_map, set_key_map, atK_ins _ _ _ _ hlen, atK_ins _ _ _ _ hlen, if_pos rfl, if_pos rfl, ih]
        congr 1
        funext z
        rw [(ins_same k u z hlen).1, (ins_same k u z hlen).2, (ins_same k u' z hlen).2]
      | idx i =>
        obtain ⟨_, u, h1, rfl⟩ := set_idx hr
        obtain ⟨_, u', h2, rfl⟩ := set_idx hs
        have ih := set_comm p q x y (atI v i) u u' (even_atI he i) h h1 h2
        rw [set_idx_list, set_idx_list]
        show (setT q y ((setL v.list i u)[i]?.getD nullT)).map _ = (setT p x ((setL v.list i u')[i]?.getD nullT)).map _
        rw [getL_set, getL_set, ih]
        congr 1
        funext z
        rw [setL_same, setL_same]
    · cases a with
      | key k =>
        obtain ⟨hk, u, h1, rfl⟩ := set_key hr
        cases b with
        | key k' =>
          obtain ⟨_, u', h2, rfl⟩ := set_key hs
          have ne : k ≠ k' := fun e2 => e (by rw [e2])
          rw [set_key_map, set_key_map, atK_ins _ _ _ _ hlen, atK_ins _ _ _ _ hlen, if_neg ne, if_neg (Ne.symm ne)]
          rw [show setT q y ((getV v.keys v.vals k').getD nullT) = some u' from h2, show setT p x ((getV v.keys v.vals k).getD nullT) = some u from h1]
          have hc := ins_comm k k' u u' ne hlen
          simp only [Option.map_some, hc.1, hc.2]
        | idx i =>
          obtain ⟨hi, u', h2, rfl⟩ := set_idx hs
          rfl
      | idx i =>
        obtain ⟨hk, u, h1, rfl⟩ := set_idx hr
        cases b with
        | key k' =>
          obtain ⟨hi, u', h2, rfl⟩ := set_key hs
          rfl
        | idx j =>
          obtain ⟨_, u', h2, rfl⟩ := set_idx hs
          have ne : i ≠ j := fun e2 => e (by rw [e2])
          rw [set_idx_list, set_idx_list]
          show (setT q y ((setL v.list i u)[j]?.getD nullT)).map _ = (setT p x ((setL v.list j u')[i]?.getD nullT)).map _
          rw [getL_other _ _ _ _ ne, getL_other _ _ _ _ (Ne.symm ne)]
          rw [show setT q y (v.list[j]?.getD nullT) = some u' from h2, show setT p x (v.list[i]?.getD nullT) = some u from h1]
          simp only [Option.map_some, setL_comm _ _ _ u u' ne]

/-- What was set stands there. -/
theorem get_set : ∀ (p : List Step) (x v r : JV), Even v → setT p x v = some r → getT p r = some x
  | [], x, v, r, _, h => by unfold setT at h; unfold getT; exact h.symm
  | .key k :: p, x, v, r, he, h => by
    obtain ⟨_, u, h1, rfl⟩ := set_key h
    unfold getT
    rw [if_pos (show (mapT _ _).kind = 0 ∨ (mapT _ _).kind = 6 from Or.inr rfl), atK_ins _ _ _ _ he.len, if_pos rfl]
    exact get_set p x _ u (even_atK he k) h1
  | .idx i :: p, x, v, r, he, h => by
    obtain ⟨_, u, h1, rfl⟩ := set_idx h
    unfold getT
    rw [if_pos (show (listT _).kind = 0 ∨ (listT _).kind = 5 from Or.inr rfl)]
    show getT p ((setL v.list i u)[i]?.getD nullT) = _
    rw [getL_set]
    exact get_set p x _ u (even_atI he i) h1
/-- It still stands there when another one has been set apart from it. -/
theorem get_still : ∀ (p q : List Step) (x y v r a : JV), Even v → apartT p q = true → setT p x v = some r → setT q y r = some a → getT p a = some x
  | [], _, _, _, _, _, _, _, h, _, _ => by simp [apartT] at h
  | _ :: _, [], _, _, _, _, _, _, h, _, _ => by simp [apartT] at h
  | c :: p, b :: q, x, y, v, r, a, he, h, hr, ha => by
    have hlen := he.len
    cases c with
    | key k =>
      obtain ⟨_, u, h1, rfl⟩ := set_key hr
      have hlen2 : (insK v.keys k).length = (insV v.keys v.vals k u).length := ins_length k u hlen
      cases b with
      | key k' =>
        obtain ⟨_, u', h2, rfl⟩ := set_key ha
        unfold getT
        rw [if_pos (show (mapT _ _).kind = 0 ∨ (mapT _ _).kind = 6 from Or.inr rfl)]
        rw [show atK (mapT (insK (mapT (insK v.keys k) (insV v.keys v.vals k u)).keys k') (insV (mapT (insK v.keys k) (insV v.keys v.vals k u)).keys (mapT (insK v.keys k) (insV v.keys v.vals k u)).vals k' u')) k = _ from atK_ins _ _ _ _ hlen2 k]
        by_cases e : k' = k
        · subst e
          simp only [apartT, if_true] at h
          rw [if_pos rfl]
          rw [atK_ins _ _ _ _ hlen, if_pos rfl] at h2
          exact get_still p q x y _ u u' (even_atK he _) h h1 h2
        · rw [if_neg e]
          have := atK_ins v.keys v.vals k u hlen k
          rw [if_pos rfl] at this
          rw [show (getV (insK v.keys k) (insV v.keys v.vals k u) k).getD nullT = u from this]
          exact get_set p x _ u (even_atK he k) h1
      | idx i =>
        obtain ⟨hi, _⟩ := set_idx ha
        rcases hi with hi | hi <;> cases hi
    | idx i =>
      obtain ⟨_, u, h1, rfl⟩ := set_idx hr
      cases b with
      | key k' =>
        obtain ⟨hi, _⟩ := set_key ha
        rcases hi with hi | hi <;> cases hi
      | idx j =>
        obtain ⟨_, u', h2, rfl⟩ := set_idx ha
        unfold getT
        rw [if_pos (show (listT _).kind = 0 ∨ (listT _).kind = 5 from Or.inr rfl)]
        show getT p ((setL (setL v.list i u) j u')[i]?.getD nullT) = _
        by_cases e : j = i
        · subst e
          simp only [apartT, if_true] at h
          rw [getL_set]
          have h3 : setT q y ((setL v.list j u)[j]?.getD nullT) = some u' := h2
          rw [getL_set] at h3
          exact get_still p q x y _ u u' (even_atI he _) h h1 h3
        · rw [getL_other _ _ _ _ e, getL_set]
          exact get_set p x _ u (even_atI he i) h1
end Go.Proofs.YtmjegeipnaalnaaGreatDoor

/- Go values that stand for trees, the entries of a map in whatever order: what it means, and how a map is read. -/
namespace Go.Proofs.YtmjegeipnaalnaaGreatDoor
open Go.RowKit

/-- What an entry holds. -/
def prs (es : List MapEntry) : List (Value × Value) := es.map fun e => (e.key, e.val)

mutual
/-- A Go value stands for a tree; its blocks lie from lo on, below B; a map's entries lie in whatever order. -/
def PRep (w : World) (lo B : Nat) : JV → Value → Prop
  | .mk k h t l ks vs, x =>
    (k = 0 ∧ x = .nilIface) ∨ (k = 1 ∧ x = .iface 4 (.bool false)) ∨ (k = 2 ∧ x = .iface 4 (.bool true)) ∨
    (k = 3 ∧ ∃ n, h = 2 * n ∧ -9007199254740992 ≤ n ∧ n ≤ 9007199254740992 ∧ x = .iface 3 (.int .i64 n)) ∨
    (k = 3 ∧ h % 2 = 1 ∧ -9007199254740992 < h ∧ h < 9007199254740992 ∧ x = .iface 79 (.float .f64 (halfBits h))) ∨
    (k = 4 ∧ t.size ≤ 140737488351232 ∧ x = .iface 9 (.string t)) ∨
    (k = 5 ∧ ∃ b cs T, lo ≤ b ∧ b < B ∧ x = .iface 80 (.slice (some ⟨b, 0, none⟩) l.length l.length) ∧ w.heap[b]? = some (.cells (List.toArray cs) T (0, 0)) ∧ PVals w lo B l cs) ∨
    (k = 6 ∧ ∃ b es clock, lo ≤ b ∧ b < B ∧ x = .iface 83 (.map (some b)) ∧ w.heap[b]? = some (.map (List.toArray es) clock) ∧ (∀ e ∈ es, e.born < clock) ∧ (es.map (·.born)).Nodup ∧
      (∀ q ∈ prs es, ∃ k ∈ ks, q.1 = .string k) ∧ ((prs es).map (·.1)).Nodup ∧ PEnts w lo B vs ks (prs es))
def PVals (w : World) (lo B : Nat) : List JV → List Value → Prop
  | [], cs => cs = []
  | y :: r, cs => ∃ c cs', cs = c :: cs' ∧ PRep w lo B y c ∧ PVals w lo B r cs'
def PEnts (w : World) (lo B : Nat) : List JV → List ByteArray → List (Value × Value) → Prop
  | [], _, _ => True
  | y :: r, ks, ps => match ks with
    | [] => True
    | k :: ks => (∃ c, (Value.string k, c) ∈ ps ∧ PRep w lo B y c) ∧ PEnts w lo B r ks ps
end

mutual
theorem PRep.mono {w w' : World} {lo lo' B B' : Nat} (hk : ∀ k, lo ≤ k → k < B → w'.heap[k]? = w.heap[k]?) (h1 : lo' ≤ lo) (h2 : B ≤ B') : ∀ (v : JV) (x : Value), PRep w lo B v x → PRep w' lo' B' v x
  | .mk k h t l ks vs, x, hr => by
    unfold PRep at hr ⊢
    rcases hr with e | e | e | e | e | e | ⟨e, b, cs, T, h3, h4, h5, h7, h8⟩ | ⟨e, b, es, cl, h3, h4, h5, h6, h9, h10, h11, h12, h13⟩
    · exact .inl e
    · exact .inr (.inl e)
    · exact .inr (.inr (.inl e))
    · exact .inr (.inr (.inr (.inl e)))
    · exact .inr (.inr (.inr (.inr (.inl e))))
    · exact .inr (.inr (.inr (.inr (.inr (.inl e)))))
    · exact .inr (.inr (.inr (.inr (.inr (.inr (.inl ⟨e, b, cs, T, by omega, by omega, h5, (hk b h3 h4).trans h7, PVals.mono hk h1 h2 l cs h8⟩))))))
    · exact .inr (.inr (.inr (.inr (.inr (.inr (.inr ⟨e, b, es, cl, by omega, by omega, h5, (hk b h3 h4).trans h6, h9, h10, h11, h12, PEnts.mono hk h1 h2 vs ks _ h13⟩))))))
theorem PVals.mono {w w' : World} {lo lo' B B' : Nat} (hk : ∀ k, lo ≤ k → k < B → w'.heap[k]? = w.heap[k]?) (h1 : lo' ≤ lo) (h2 : B ≤ B') : ∀ (l : List JV) (cs : List Value), PVals w lo B l cs → PVals w' lo' B' l cs
  | [], cs, h => by unfold PVals at h ⊢; exact h
  | y :: r, cs, h => by
    unfold PVals at h ⊢
    obtain ⟨c, cs', h3, h4, h5⟩ := h
    exact ⟨c, cs', h3, PRep.mono hk h1 h2 y c h4, PVals.mono hk h1 h2 r cs' h5⟩
theorem PEnts.mono {w w' : World} {lo lo' B B' : Nat} (hk : ∀ k, lo ≤ k → k < B → w'.heap[k]? = w.heap[k]?) (h1 : lo' ≤ lo) (h2 : B ≤ B') : ∀ (vs : List JV) (ks : List ByteArray) (ps : List (Value × Value)), PEnts w lo B vs ks ps → PEnts w' lo' B' vs ks ps
  | [], _, _, _ => by unfold PEnts; trivial
  | _ :: _, [], _, _ => by unfold PEnts; trivial
  | y :: r, k :: ks, ps, h => by
    unfold PEnts at h ⊢
    obtain ⟨⟨c, h3, h4⟩, h5⟩ := h
    exact ⟨⟨c, h3, PRep.mono hk h1 h2 y c h4⟩, PEnts.mono hk h1 h2 r ks ps h5⟩
end
theorem PRep.below {w w' : World} {lo B B' : Nat} {v : JV} {x : Value} (h : PRep w lo B v x) (hb : Below B w w') (hB : B ≤ B') : PRep w' lo B' v x :=
  PRep.mono (fun k _ hk => hb.block k hk) (Nat.le_refl _) hB v x h

theorem PVals.length {w : World} {lo B : Nat} : ∀ {l : List JV} {cs : List Value}, PVals w lo B l cs → cs.length = l.length
  | [], cs, h => by unfold PVals at h; simp [h]
  | y :: r, cs, h => by
    unfold PVals at h
    obtain ⟨c, cs', rfl, _, h5⟩ := h
    simp [PVals.length h5]
theorem PVals.get {w : World} {lo B : Nat} : ∀ {l : List JV} {cs : List Value}, PVals w lo B l cs → ∀ (i : Nat) (hi : i < l.length) (hc : i < cs.length), PRep w lo B l[i] cs[i]
  | [], _, _, i, hi, _ => absurd hi (by simp)
  | y :: r, cs, h, i, hi, hc => by
    unfold PVals at h
    obtain ⟨c, cs', rfl, h4, h5⟩ := h
    cases i with
    | zero => exact h4
    | succ i => exact PVals.get h5 i (by simpa using hi) (by simpa using hc)
theorem PVals.mk {w : World} {lo B : Nat} : ∀ {l : List JV} {cs : List Value}, cs.length = l.length → (∀ (i : Nat) (hi : i < l.length) (hc : i < cs.length), PRep w lo B l[i] cs[i]) → PVals w lo B l cs
  | [], [], _, _ => by unfold PVals; rfl
  | [], _ :: _, h, _ => absurd h (by simp)
  | _ :: _, [], h, _ => absurd h (by simp)
  | y :: r, c :: cs, h, hg => by
    unfold PVals
    exact ⟨c, cs, rfl, hg 0 (by simp) (by simp), PVals.mk (by simpa using h) fun i hi hc => hg (i + 1) (by simpa using hi) (by simpa using hc)⟩

theorem PEnts.get {w : World} {lo B : Nat} {k : ByteArray} {y : JV} {ps : List (Value × Value)} : ∀ {vs : List JV} {ks : List ByteArray}, PEnts w lo B vs ks ps → getV ks vs k = some y → ∃ c, (Value.string k, c) ∈ ps ∧ PRep w lo B y c
  | [], [], _, h => by unfold getV at h; cases h
  | [], _ :: _, _, h => by unfold getV at h; cases h
  | _ :: _, [], _, h => by unfold getV at h; cases h
  | v :: vs, a :: ks, hp, h => by
    unfold PEnts at hp
    unfold getV at h
    split at h
    · rename_i e
      have e2 : a = k := ba_ext' (beq_iff_eq.1 e)
      subst e2
      obtain rfl : v = y := by simpa using h
      exact hp.1
    · exact PEnts.get hp.2 h
theorem getV_at {ks : List ByteArray} {vs : List JV} {p : Option ByteArray} (hr : Rising p ks) (i : Nat) (h1 : i < ks.length) (h2 : i < vs.length) : getV ks vs ks[i] = some vs[i] := by
  induction ks generalizing vs p i with
  | nil => exact absurd h1 (by simp)
  | cons a ks ih =>
    cases vs with
    | nil => exact absurd h2 (by simp)
    | cons v vs =>
      unfold Rising at hr
      cases i with
      | zero => unfold getV; simp
      | succ i =>
        have hi : i < ks.length := by simpa using h1
        have hlt := rising_all hr.2 ks[i] (List.getElem_mem hi)
        unfold getV
        simp only [List.getElem_cons_succ]
        rw [keyLt_ne hlt]
        simp only [Bool.false_eq_true, if_false]
        exact ih hr.2 i _ _
theorem PEnts.mk {w : World} {lo B : Nat} {ps : List (Value × Value)} : ∀ {vs : List JV} {ks : List ByteArray}, (∀ i (h1 : i < ks.length) (h2 : i < vs.length), ∃ c, (Value.string ks[i], c) ∈ ps ∧ PRep w lo B vs[i] c) → PEnts w lo B vs ks ps
  | [], _, _ => by unfold PEnts; trivial
  | _ :: _, [], _ => by unfold PEnts; trivial
  | v :: vs, a :: ks, h => by
    unfold PEnts
    exact ⟨h 0 (by simp) (by simp), PEnts.mk fun i h1 h2 => h (i + 1) (by simpa using h1) (by simpa using h2)⟩
theorem PEnts.mk' {w : World} {lo B : Nat} {ps : List (Value × Value)} {vs : List JV} {ks : List ByteArray} (hr : Rising none ks) (h : ∀ k y, getV ks vs k = some y → ∃ c, (Value.string k, c) ∈ ps ∧ PRep w lo B y c) : PEnts w lo B vs ks ps :=
  PEnts.mk fun i h1 h2 => h _ _ (getV_at hr i h1 h2)

mutual
/-- No list, and no map, holds more than so many. -/
def Few (N : Nat) : JV → Prop
  | .mk _ _ _ l ks vs => l.length ≤ N ∧ ks.length ≤ N ∧ vs.length ≤ N ∧ FewL N l ∧ FewL N vs
def FewL (N : Nat) : List JV → Prop
  | [] => True
  | x :: r => Few N x ∧ FewL N r
end
theorem FewL.get {N : Nat} : ∀ {l : List JV}, FewL N l → ∀ x ∈ l, Few N x
  | [], _, x, hx => by simp at hx
  | y :: r, h, x, hx => by
    unfold FewL at h
    rcases List.mem_cons.1 hx with e | e
    · exact e ▸ h.1
    · exact FewL.get h.2 x e
theorem few_null (N : Nat) : Few N nullT := by unfold nullT Few FewL; exact ⟨Nat.zero_le _, Nat.zero_le _, Nat.zero_le _, trivial, trivial⟩

mutual
/-- A value in the old sense is one in the new sense. -/
theorem GRep.toP {w : World} {lo B : Nat} : ∀ (v : JV) (x : Value), Good v → GRep w lo B v x → PRep w lo B v x
  | .mk k h t l ks vs, x, hg, hr => by
    obtain ⟨_, _, _, x4, _, _, _, _, x9, x10, x11⟩ := hg.head
    unfold GRep at hr
    unfold PRep
    rcases hr with e | e | e | e | e | e | ⟨e, b, cs, T, h3, h4, h5, h6, h7, h8⟩ | ⟨e, b, es, h3, h4, h5, h6, h7, h8, h9, h10⟩
    · exact .inl e
    · exact .inr (.inl e)
    · exact .inr (.inr (.inl e))
    · exact .inr (.inr (.inr (.inl e)))
    · exact .inr (.inr (.inr (.inr (.inl e))))
    · exact .inr (.inr (.inr (.inr (.inr (.inl e)))))
    · exact .inr (.inr (.inr (.inr (.inr (.inr (.inl ⟨e, b, cs, T, h3, h4, h5, h7, GVals.toP l cs x10 h8⟩))))))
    · have hb : ∀ e ∈ es, e.born < es.length := by
        intro q hq
        have : q.born ∈ es.map (·.born) := List.mem_map.2 ⟨q, hq, rfl⟩
        rw [h9] at this
        exact List.mem_range.1 this
      have hkeys : (prs es).map (·.1) = ks.map Value.string := by unfold prs; rw [List.map_map, ← h8]; rfl
      have hvals : (prs es).map (·.2) = es.map (·.val) := by unfold prs; rw [List.map_map]; rfl
      refine .inr (.inr (.inr (.inr (.inr (.inr (.inr ⟨e, b, es, es.length, h3, h4, h5, h6, hb, by rw [h9]; exact List.nodup_range, ?_, ?_, ?_⟩))))))
      · intro q hq
        have : q.1 ∈ (prs es).map (·.1) := List.mem_map.2 ⟨q, hq, rfl⟩
        rw [hkeys] at this
        obtain ⟨k2, hk2, e2⟩ := List.mem_map.1 this
        exact ⟨k2, hk2, e2.symm⟩
      · rw [hkeys]
        have hnd := rising_nodup x9
        unfold List.Nodup at hnd ⊢
        rw [List.pairwise_map] at hnd ⊢
        exact hnd.imp fun hne e => hne (by injection e with e; rw [e])
      · exact GVals.toE vs ks (prs es) (prs es) x11 x4 hkeys (by rw [hvals]; exact h10) (fun q hq => hq)
theorem GVals.toP {w : World} {lo B : Nat} : ∀ (l : List JV) (cs : List Value), GoodL l → GVals w lo B l cs → PVals w lo B l cs
  | [], cs, _, h => by unfold GVals at h; unfold PVals; exact h
  | y :: r, cs, hg, h => by
    unfold GoodL at hg
    unfold GVals at h
    unfold PVals
    obtain ⟨c, cs', h3, h4, h5⟩ := h
    exact ⟨c, cs', h3, GRep.toP y c hg.1 h4, GVals.toP r cs' hg.2 h5⟩
theorem GVals.toE {w : World} {lo B : Nat} : ∀ (vs : List JV) (ks : List ByteArray) (ps qs : List (Value × Value)), GoodL vs → ks.length = vs.length → ps.map (·.1) = ks.map Value.string → GVals w lo B vs (ps.map (·.2)) → (∀ q ∈ ps, q ∈ qs) → PEnts w lo B vs ks qs
  | [], _, _, _, _, _, _, _, _ => by unfold PEnts; trivial
  | _ :: _, [], _, _, _, h, _, _, _ => absurd h (by simp)
  | _ :: _, _ :: _, [], _, _, _, h, _, _ => absurd h (by simp)
  | y :: r, k :: ks, q :: ps, qs, hg, hl, hk, h, hs => by
    unfold GoodL at hg
    rw [List.map_cons] at h
    unfold GVals at h
    obtain ⟨c, cs', h3, h4, h5⟩ := h
    simp only [List.cons.injEq] at h3
    obtain ⟨rfl, rfl⟩ := h3
    simp only [List.map_cons, List.cons.injEq] at hk
    unfold PEnts
    refine ⟨⟨q.2, ?_, GRep.toP y q.2 hg.1 h4⟩, GVals.toE r ks ps qs hg.2 (by simpa using hl) hk.2 h5 (fun z hz => hs z (by simp [hz]))⟩
    have : q = (Value.string k, q.2) := by rw [← hk.1]
    rw [← this]
    exact hs q (by simp)
end
end Go.Proofs.YtmjegeipnaalnaaGreatDoor

/- Values of the thin package whose slices lie in blocks of a set: so that other blocks may turn. -/
namespace Go.Proofs.YtmjegeipnaalnaaGreatDoor
open Go.RowKit

def SCellsS (w : World) (S : Nat → Prop) : List ByteArray → Nat → Nat → Prop
  | [], _, _ => True
  | s :: r, b, o => S b ∧ s.size ≤ 140737488351232 ∧ w.cell? ⟨b, o, none⟩ = some (.string s) ∧ SCellsS w S r b (o + 1)
mutual
/-- Six cells read as a value, its slices in blocks of the set. -/
def JRepS (w : World) (S : Nat → Prop) : JV → List Value → Prop
  | .mk k h t l ks vs, cs => I64 k ∧ I64 h ∧ t.size ≤ 140737488351232 ∧ ∃ vl vk vv, cs = [.int .i64 k, .int .i64 h, .string t, vl, vk, vv] ∧
      SlOf l.length 104 (JCellsS w S l) vl ∧ SlOf ks.length 16 (SCellsS w S ks) vk ∧ SlOf vs.length 104 (JCellsS w S vs) vv
def JCellsS (w : World) (S : Nat → Prop) : List JV → Nat → Nat → Prop
  | [], _, _ => True
  | x :: r, b, o => S b ∧ (∃ cs, JRepS w S x cs ∧ ∀ j, j < 6 → w.cell? ⟨b, o + j, none⟩ = cs[j]?) ∧ JCellsS w S r b (o + 6)
end

theorem cell_kept {w w' : World} {b o : Nat} (h : w'.heap[b]? = w.heap[b]?) : w'.cell? ⟨b, o, none⟩ = w.cell? ⟨b, o, none⟩ := by
  simp only [World.cell?, h]
theorem SCellsS.mono {w w' : World} {S S' : Nat → Prop} (hk : ∀ b, S b → w'.heap[b]? = w.heap[b]?) (hS : ∀ b, S b → S' b) : ∀ (l : List ByteArray) (b o : Nat), SCellsS w S l b o → SCellsS w' S' l b o
  | [], _, _, _ => by unfold SCellsS; trivial
  | s :: r, b, o, h => by
    unfold SCellsS at h ⊢
    exact ⟨hS b h.1, h.2.1, (cell_kept (hk b h.1)).trans h.2.2.1, SCellsS.mono hk hS r b (o + 1) h.2.2.2⟩
mutual
theorem JRepS.mono {w w' : World} {S S' : Nat → Prop} (hk : ∀ b, S b → w'.heap[b]? = w.heap[b]?) (hS : ∀ b, S b → S' b) : ∀ (v : JV) (cs : List Value), JRepS w S v cs → JRepS w' S' v cs
  | .mk k h t l ks vs, cs, hr => by
    unfold JRepS at hr ⊢
    obtain ⟨h1, h2, h3, vl, vk, vv, rfl, h4, h5, h6⟩ := hr
    exact ⟨h1, h2, h3, vl, vk, vv, rfl, h4.imp (JCellsS.mono hk hS l), h5.imp (SCellsS.mono hk hS ks), h6.imp (JCellsS.mono hk hS vs)⟩
theorem JCellsS.mono {w w' : World} {S S' : Nat → Prop} (hk : ∀ b, S b → w'.heap[b]? = w.heap[b]?) (hS : ∀ b, S b → S' b) : ∀ (l : List JV) (b o : Nat), JCellsS w S l b o → JCellsS w' S' l b o
  | [], _, _, _ => by unfold JCellsS; trivial
  | x :: r, b, o, h => by
    unfold JCellsS at h ⊢
    obtain ⟨h1, ⟨cs, h2, h3⟩, h4⟩ := h
    exact ⟨hS b h1, ⟨cs, JRepS.mono hk hS x cs h2, fun j hj => (cell_kept (hk b h1)).trans (h3 j hj)⟩, JCellsS.mono hk hS r b (o + 6) h4⟩
end
theorem SCellsS.toRep {w : World} {S : Nat → Prop} {B : Nat} (hS : ∀ b, S b → b < B) : ∀ (l : List ByteArray) (b o : Nat), SCellsS w S l b o → SCells w B l b o
  | [], _, _, _ => by unfold SCells; trivial
  | s :: r, b, o, h => by
    unfold SCellsS at h
    unfold SCells
    exact ⟨hS b h.1, h.2.1, h.2.2.1, SCellsS.toRep hS r b (o + 1) h.2.2.2⟩
mutual
theorem JRepS.toRep {w : World} {S : Nat → Prop} {B : Nat} (hS : ∀ b, S b → b < B) : ∀ (v : JV) (cs : List Value), JRepS w S v cs → JRep w B v cs
  | .mk k h t l ks vs, cs, hr => by
    unfold JRepS at hr
    unfold JRep
    obtain ⟨h1, h2, h3, vl, vk, vv, rfl, h4, h5, h6⟩ := hr
    exact ⟨h1, h2, h3, vl, vk, vv, rfl, h4.imp (JCellsS.toRep hS l), h5.imp (SCellsS.toRep hS ks), h6.imp (JCellsS.toRep hS vs)⟩
theorem JCellsS.toRep {w : World} {S : Nat → Prop} {B : Nat} (hS : ∀ b, S b → b < B) : ∀ (l : List JV) (b o : Nat), JCellsS w S l b o → JCells w B l b o
  | [], _, _, _ => by unfold JCells; trivial
  | x :: r, b, o, h => by
    unfold JCellsS at h
    unfold JCells
    obtain ⟨h1, ⟨cs, h2, h3⟩, h4⟩ := h
    exact ⟨hS b h1, ⟨cs, JRepS.toRep hS x cs h2, h3⟩, JCellsS.toRep hS r b (o + 6) h4⟩
end

/-- Values laid flat, six cells a value. -/
def JFlat (w : World) (S : Nat → Prop) : List JV → List Value → Prop
  | [], xs => xs = []
  | y :: r, xs => ∃ c0 c1 c2 c3 c4 c5 xs', xs = c0 :: c1 :: c2 :: c3 :: c4 :: c5 :: xs' ∧ JRepS w S y [c0, c1, c2, c3, c4, c5] ∧ JFlat w S r xs'
theorem JFlat.mono {w w' : World} {S S' : Nat → Prop} (hk : ∀ b, S b → w'.heap[b]? = w.heap[b]?) (hS : ∀ b, S b → S' b) : ∀ {l : List JV} {xs : List Value}, JFlat w S l xs → JFlat w' S' l xs
  | [], xs, h => by unfold JFlat at h ⊢; exact h
  | y :: r, xs, h => by
    unfold JFlat at h ⊢
    obtain ⟨c0, c1, c2, c3, c4, c5, xs', h1, h2, h3⟩ := h
    exact ⟨c0, c1, c2, c3, c4, c5, xs', h1, JRepS.mono hk hS y _ h2, JFlat.mono hk hS h3⟩
theorem JFlat.snoc {w : World} {S : Nat → Prop} {y : JV} {c0 c1 c2 c3 c4 c5 : Value} (hy : JRepS w S y [c0, c1, c2, c3, c4, c5]) : ∀ {l : List JV} {xs : List Value}, JFlat w S l xs → JFlat w S (l ++ [y]) (xs ++ [c0, c1, c2, c3, c4, c5])
  | [], xs, h => by
    unfold JFlat at h
    subst h
    show JFlat w S [y] [c0, c1, c2, c3, c4, c5]
    unfold JFlat
    exact ⟨c0, c1, c2, c3, c4, c5, [], rfl, hy, by unfold JFlat; rfl⟩
  | z :: r, xs, h => by
    unfold JFlat at h
    obtain ⟨d0, d1, d2, d3, d4, d5, xs', rfl, h2, h3⟩ := h
    show JFlat w S (z :: (r ++ [y])) (d0 :: d1 :: d2 :: d3 :: d4 :: d5 :: (xs' ++ [c0, c1, c2, c3, c4, c5]))
    unfold JFlat
    exact ⟨d0, d1, d2, d3, d4, d5, _, rfl, h2, JFlat.snoc hy h3⟩
theorem JFlat.length {w : World} {S : Nat → Prop} : ∀ {l : List JV} {xs : List Value}, JFlat w S l xs → xs.length = l.length * 6
  | [], xs, h => by unfold JFlat at h; simp [h]
  | y :: r, xs, h => by
    unfold JFlat at h
    obtain ⟨_, _, _, _, _, _, xs', rfl, _, h3⟩ := h
    have := JFlat.length h3
    simp [this]
    omega
/-- Values laid flat in a block of the set are cells in a row. -/
theorem JFlat.cells {w : World} {S : Nat → Prop} {b : Nat} (hb : S b) : ∀ {l : List JV} {xs : List Value} {o : Nat}, JFlat w S l xs → (∀ j u, xs[j]? = some u → w.cell? ⟨b, o + j, none⟩ = some u) → JCellsS w S l b o
  | [], _, _, _, _ => by unfold JCellsS; trivial
  | y :: r, xs, o, h, hc => by
    unfold JFlat at h
    obtain ⟨c0, c1, c2, c3, c4, c5, xs', rfl, h2, h3⟩ := h
    unfold JCellsS
    refine ⟨hb, ⟨_, h2, fun j hj => ?_⟩, JFlat.cells hb h3 fun j u hj => ?_⟩
    · rcases j with _ | _ | _ | _ | _ | _ | j
      · exact (hc 0 c0 rfl).trans rfl
      · exact (hc 1 c1 rfl).trans rfl
      · exact (hc 2 c2 rfl).trans rfl
      · exact (hc 3 c3 rfl).trans rfl
      · exact (hc 4 c4 rfl).trans rfl
      · exact (hc 5 c5 rfl).trans rfl
      · omega
    · have := hc (j + 6) u (by simpa using hj)
      rw [show o + 6 + j = o + (j + 6) by omega]
      exact this
end Go.Proofs.YtmjegeipnaalnaaGreatDoor
