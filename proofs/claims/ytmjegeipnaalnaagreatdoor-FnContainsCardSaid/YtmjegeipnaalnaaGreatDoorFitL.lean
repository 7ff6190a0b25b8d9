import Derived.Test.YtmjegeipnaalnaaGreatDoorFit
import Derived.Deep.DeepCutAuto
import Derived.StillTailTactics
import Derived.BigQuiet
namespace Go.Proofs.YtmjegeipnaalnaaGreatDoor
open Go.RowKit

theorem LkAt.want_eq {b : Nat} {s : Lk} {w : World} {ok ok' : Bool} (h : LkAt b (s.want ok) w) (e : ok' = ok) : LkAt b (s.want ok') w := e ▸ h


theorem below_of_grown {w w' : World} {b B : Nat} (h : w.grownBy w' (some b)) (hB : B ≤ b) (hb : b < w.heap.size) : Below B w w' :=
  ⟨h.os, h.tape, h.output, h.size, fun k hk => h.block k (by omega) (by simp; omega)⟩
theorem JCells.get {w : World} {B : Nat} : ∀ (l : List JV) (b o : Nat), JCells w B l b o → ∀ (i : Nat) (hi : i < l.length), b < B ∧ ∃ cs, JRep w B l[i] cs ∧ ∀ j, j < 6 → w.cell? ⟨b, o + i * 6 + j, none⟩ = cs[j]?
  | [], _, _, _, i, hi => absurd hi (by simp)
  | x :: r, b, o, h, 0, _ => by
    unfold JCells at h
    obtain ⟨h1, ⟨cs, h2, h3⟩, _⟩ := h
    exact ⟨h1, cs, h2, fun j hj => by rw [show o + 0 * 6 + j = o + j by omega]; exact h3 j hj⟩
  | x :: r, b, o, h, i + 1, hi => by
    unfold JCells at h
    obtain ⟨h1, _, h4⟩ := h
    obtain ⟨h5, cs, h6, h7⟩ := JCells.get r b (o + 6) h4 i (by simpa using hi)
    exact ⟨h5, cs, h6, fun j hj => by rw [show o + (i + 1) * 6 + j = o + 6 + i * 6 + j by omega]; exact h7 j hj⟩
theorem SCells.get {w : World} {B : Nat} : ∀ (l : List ByteArray) (b o : Nat), SCells w B l b o → ∀ (i : Nat) (hi : i < l.length), b < B ∧ l[i].size ≤ 140737488351232 ∧ w.cell? ⟨b, o + i, none⟩ = some (.string l[i])
  | [], _, _, _, i, hi => absurd hi (by simp)
  | x :: r, b, o, h, 0, _ => by
    unfold SCells at h
    exact ⟨h.1, h.2.1, h.2.2.1⟩
  | x :: r, b, o, h, i + 1, hi => by
    unfold SCells at h
    obtain ⟨h5, h6, h7⟩ := SCells.get r b (o + 1) h.2.2.2 i (by simpa using hi)
    exact ⟨h5, h6, by rw [show o + (i + 1) = o + 1 + i by omega]; exact h7⟩

/-- The walk's own promise for one value. -/
def ValueC (V : ByteArray → Bool) (T : World → Prop) (v : JV) : Prop :=
  ∀ (B b : Nat) (s : Lk) (deep : Int) (cs : List Value) (w : World), JRep w B v cs → B ≤ b → 3 ≤ b → LkAt b s w → T w → 0 ≤ deep → deep ≤ 1000 → 0 ≤ s.parts → s.parts ≤ 400 → 0 ≤ s.bytes → s.bytes ≤ 200000000000000 →
    Calls Tryz.prog 54 #[.pointer (some ⟨b, 0, none⟩), .agg cs.toArray, .int .i64 deep] w fun e w' => e = .returned (.tuple #[]) ∧ LkAt b (s.value V deep v) w' ∧ w.grownBy w' (some b)

theorem Lk.list_cons_ok (V : ByteArray → Bool) (d : Int) (x : JV) (r : List JV) (s : Lk) (h : s.bad = false) : Lk.list V d (x :: r) s = Lk.list V d r (Lk.value V d x s) := by
  simp [Lk.list, h]
theorem Lk.list_bad (V : ByteArray → Bool) (d : Int) : ∀ (l : List JV) (s : Lk), s.bad = true → Lk.list V d l s = s
  | [], s, _ => by simp [Lk.list]
  | y :: r, s, h => by simp [Lk.list, h]
theorem Lk.list_append (V : ByteArray → Bool) (d : Int) : ∀ (l r : List JV) (s : Lk), Lk.list V d (l ++ r) s = Lk.list V d r (Lk.list V d l s)
  | [], _, s => by simp [Lk.list]
  | y :: l, r, s => by
    by_cases hb : s.bad = true
    · rw [Lk.list_bad V d _ s hb, Lk.list_bad V d _ s hb, Lk.list_bad V d _ s hb]
    · have hb' : s.bad = false := by simpa using hb
      rw [List.cons_append, Lk.list_cons_ok V d _ _ _ hb', Lk.list_cons_ok V d _ _ _ hb', Lk.list_append V d l r _]
theorem Lk.list_take (V : ByteArray → Bool) (d : Int) (l : List JV) (s : Lk) (j : Nat) (hj : j < l.length) (h : (Lk.list V d (l.take j) s).bad = false) :
    Lk.list V d (l.take (j + 1)) s = Lk.value V d l[j] (Lk.list V d (l.take j) s) := by
  rw [List.take_succ_eq_append_getElem hj, Lk.list_append, Lk.list_cons_ok V d _ _ _ h]; simp [Lk.list]
theorem Lk.list_stop (V : ByteArray → Bool) (d : Int) (l : List JV) (s : Lk) (j : Nat) (h : (Lk.list V d (l.take j) s).bad = true) :
    Lk.list V d l s = Lk.list V d (l.take j) s := by
  conv => lhs; rw [← List.take_append_drop j l]
  rw [Lk.list_append, Lk.list_bad V d _ _ h]
theorem JRep.six {w : World} {B : Nat} {v : JV} {cs : List Value} (h : JRep w B v cs) : ∃ c0 c1 c2 c3 c4 c5, cs = [c0, c1, c2, c3, c4, c5] := by
  cases v with
  | mk k h' t l ks vs =>
    unfold JRep at h
    obtain ⟨_, _, _, vl, vk, vv, rfl, _⟩ := h
    exact ⟨_, _, _, _, _, _, rfl⟩
/-- The six cells of one element, each by itself. -/
theorem JCells.at6 {w : World} {B : Nat} {l : List JV} {b o : Nat} (h : JCells w B l b o) (i : Nat) (hi : i < l.length) :
    b < B ∧ ∃ c0 c1 c2 c3 c4 c5, JRep w B l[i] [c0, c1, c2, c3, c4, c5] ∧ w.cell? ⟨b, o + i * 6, none⟩ = some c0 ∧ w.cell? ⟨b, o + i * 6 + 1, none⟩ = some c1 ∧ w.cell? ⟨b, o + i * 6 + 2, none⟩ = some c2 ∧
      w.cell? ⟨b, o + i * 6 + 3, none⟩ = some c3 ∧ w.cell? ⟨b, o + i * 6 + 4, none⟩ = some c4 ∧ w.cell? ⟨b, o + i * 6 + 5, none⟩ = some c5 := by
  obtain ⟨h1, cs, h2, h3⟩ := JCells.get l b o h i hi
  obtain ⟨c0, c1, c2, c3, c4, c5, rfl⟩ := h2.six
  exact ⟨h1, c0, c1, c2, c3, c4, c5, h2, h3 0 (by omega), h3 1 (by omega), h3 2 (by omega), h3 3 (by omega), h3 4 (by omega), h3 5 (by omega)⟩

/-- What the counters keep: while nothing is bad they are within their bounds. -/
def Lk.Inv (s : Lk) : Prop := 0 ≤ s.parts ∧ 0 ≤ s.bytes ∧ (s.bad = false → s.parts ≤ 400 ∧ s.bytes ≤ 2000)
theorem Lk.Inv.want {s : Lk} (h : s.Inv) (ok : Bool) : (s.want ok).Inv := by
  obtain ⟨h1, h2, h3⟩ := h
  exact ⟨h1, h2, fun hb => h3 (by simp [Lk.want] at hb; exact hb.1)⟩
theorem Lk.Inv.part {s : Lk} (h : s.Inv) (d : Int) : (s.part d).Inv := by
  obtain ⟨h1, h2, h3⟩ := h
  refine ⟨by simp only [Lk.part]; omega, h2, fun hb => ?_⟩
  simp [Lk.part] at hb ⊢
  omega
theorem Lk.Inv.str {V : ByteArray → Bool} {s : Lk} (h : s.Inv) (t : ByteArray) : (s.str V t).Inv := by
  obtain ⟨h1, h2, h3⟩ := h
  refine ⟨h1, by simp only [Lk.str]; omega, fun hb => ?_⟩
  simp [Lk.str] at hb ⊢
  exact ⟨(h3 hb.1).1, hb.2.1⟩
mutual
theorem Lk.Inv.value {V : ByteArray → Bool} (d : Int) : ∀ (v : JV) {s : Lk}, s.Inv → (Lk.value V d v s).Inv
  | .mk k h t l ks vs, s, hi => by
    by_cases hb : (s.part d).bad = true
    · simp only [Lk.value, hb, if_true]; exact hi.part d
    · have hb' : (s.part d).bad = false := by simpa using hb
      simp only [Lk.value, hb', Bool.false_eq_true, if_false]
      exact Lk.Inv.entries (d + 1) vs ks none (Lk.Inv.list (d + 1) l ((((hi.part d).want _).want _).str t))
theorem Lk.Inv.list {V : ByteArray → Bool} (d : Int) : ∀ (l : List JV) {s : Lk}, s.Inv → (Lk.list V d l s).Inv
  | [], s, hi => by simpa [Lk.list] using hi
  | x :: r, s, hi => by
    by_cases hb : s.bad = true
    · simp only [Lk.list, hb, if_true]; exact hi
    · have hb' : s.bad = false := by simpa using hb
      simp only [Lk.list, hb', Bool.false_eq_true, if_false]
      exact Lk.Inv.list d r (Lk.Inv.value d x hi)
theorem Lk.Inv.entries {V : ByteArray → Bool} (d : Int) : ∀ (vs : List JV) (ks : List ByteArray) (p : Option ByteArray) {s : Lk}, s.Inv → (Lk.entries V d vs ks p s).Inv
  | [], _, _, s, hi => by simpa [Lk.entries] using hi
  | x :: r, [], _, s, hi => by simpa [Lk.entries] using hi
  | x :: r, k :: ks, p, s, hi => by
    by_cases hb : s.bad = true
    · simp only [Lk.entries, hb, if_true]; exact hi
    · have hb' : s.bad = false := by simpa using hb
      simp only [Lk.entries, hb', Bool.false_eq_true, if_false]
      exact Lk.Inv.entries d r ks (some k) (Lk.Inv.value d x ((hi.str k).want _))
end

mutual
theorem Lk.value_bad (V : ByteArray → Bool) (d : Int) : ∀ (v : JV) (s : Lk), s.bad = true → (Lk.value V d v s).bad = true
  | .mk k h t l ks vs, s, hb => by
    have h1 : (s.part d).bad = true := by simp [Lk.part, hb]
    simp only [Lk.value, h1, if_true]
end
theorem Lk.list_sticky (V : ByteArray → Bool) (d : Int) (l : List JV) (s : Lk) (h : s.bad = true) : (Lk.list V d l s).bad = true := by rw [Lk.list_bad V d l s h]; exact h
theorem Lk.entries_bad (V : ByteArray → Bool) (d : Int) : ∀ (vs : List JV) (ks : List ByteArray) (p : Option ByteArray) (s : Lk), s.bad = true → Lk.entries V d vs ks p s = s
  | [], _, _, s, _ => by simp [Lk.entries]
  | x :: r, [], _, s, _ => by simp [Lk.entries]
  | x :: r, k :: ks, _, s, h => by simp [Lk.entries, h]
def prevKey (j : Nat) (ks : List ByteArray) (p : Option ByteArray) : Option ByteArray := if j = 0 then p else ks[j - 1]?
theorem Lk.entries_cons_ok (V : ByteArray → Bool) (d : Int) (x : JV) (r : List JV) (k : ByteArray) (ks : List ByteArray) (p : Option ByteArray) (s : Lk) (h : s.bad = false) :
    Lk.entries V d (x :: r) (k :: ks) p s = Lk.entries V d r ks (some k) (Lk.value V d x ((s.str V k).want (prevOk p k))) := by
  simp [Lk.entries, h]
theorem Lk.entries_split (V : ByteArray → Bool) (d : Int) : ∀ (j : Nat) (vs : List JV) (ks : List ByteArray) (p : Option ByteArray) (s : Lk), j ≤ vs.length → j ≤ ks.length →
    Lk.entries V d vs ks p s = Lk.entries V d (vs.drop j) (ks.drop j) (prevKey j ks p) (Lk.entries V d (vs.take j) (ks.take j) p s)
  | 0, vs, ks, p, s, _, _ => by simp [Lk.entries, prevKey]
  | j + 1, [], _, _, _, h, _ => absurd h (by simp)
  | j + 1, _ :: _, [], _, _, _, h => absurd h (by simp)
  | j + 1, x :: r, k :: ks, p, s, h1, h2 => by
    by_cases hb : s.bad = true
    · rw [Lk.entries_bad V d _ _ _ s hb, Lk.entries_bad V d _ _ _ s hb, Lk.entries_bad V d _ _ _ s hb]
    · have hb' : s.bad = false := by simpa using hb
      rw [List.take_succ_cons, List.take_succ_cons, Lk.entries_cons_ok V d _ _ _ _ _ _ hb', Lk.entries_cons_ok V d _ _ _ _ _ _ hb', List.drop_succ_cons, List.drop_succ_cons]
      rw [Lk.entries_split V d j r ks (some k) _ (by simpa using h1) (by simpa using h2)]
      have e : prevKey (j + 1) (k :: ks) p = prevKey j ks (some k) := by
        unfold prevKey
        cases j with
        | zero => simp
        | succ j => simp
      rw [e]
theorem Lk.entries_stop (V : ByteArray → Bool) (d : Int) (vs : List JV) (ks : List ByteArray) (p : Option ByteArray) (s : Lk) (j : Nat) (h1 : j ≤ vs.length) (h2 : j ≤ ks.length)
    (h : (Lk.entries V d (vs.take j) (ks.take j) p s).bad = true) : Lk.entries V d vs ks p s = Lk.entries V d (vs.take j) (ks.take j) p s := by
  rw [Lk.entries_split V d j vs ks p s h1 h2, Lk.entries_bad V d _ _ _ _ h]
theorem Lk.entries_take (V : ByteArray → Bool) (d : Int) (vs : List JV) (ks : List ByteArray) (s : Lk) (j : Nat) (h1 : j < vs.length) (h2 : j < ks.length)
    (h : (Lk.entries V d (vs.take j) (ks.take j) none s).bad = false) :
    Lk.entries V d (vs.take (j + 1)) (ks.take (j + 1)) none s = Lk.value V d vs[j] (((Lk.entries V d (vs.take j) (ks.take j) none s).str V ks[j]).want (prevOk (prevKey j ks none) ks[j])) := by
  rw [Lk.entries_split V d j (vs.take (j + 1)) (ks.take (j + 1)) none s (by simp; omega) (by simp; omega)]
  have a1 : (vs.take (j + 1)).take j = vs.take j := by rw [List.take_take, Nat.min_eq_left (by omega)]
  have a2 : (ks.take (j + 1)).take j = ks.take j := by rw [List.take_take, Nat.min_eq_left (by omega)]
  have a3 : (vs.take (j + 1)).drop j = [vs[j]] := by rw [List.take_succ_eq_append_getElem h1, List.drop_append, List.drop_of_length_le (by simp; omega)]; simp [Nat.min_eq_left (Nat.le_of_lt h1)]
  have a4 : (ks.take (j + 1)).drop j = [ks[j]] := by rw [List.take_succ_eq_append_getElem h2, List.drop_append, List.drop_of_length_le (by simp; omega)]; simp [Nat.min_eq_left (Nat.le_of_lt h2)]
  have a5 : prevKey j (ks.take (j + 1)) none = prevKey j ks none := by
    unfold prevKey
    split
    · rfl
    · rw [List.getElem?_take, if_pos (by omega)]
  rw [a1, a2, a3, a4, a5, Lk.entries_cons_ok V d _ _ _ _ _ _ h]
  simp [Lk.entries]

theorem still_of_quiet {P : Program} {w : World} {K : Act → Prop} {a : Act} {o : Oper} (h : o.quiet P a (fun w' => w' = w) K) : o.still P a w K := by
  obtain ⟨v, h1, h2⟩ := h
  have h3 := h1 w rfl
  unfold Oper.quietAt at h3
  unfold Oper.still
  generalize (execOp a.eval o).run P w = r at *
  cases r with
  | ok n w' =>
    cases n <;> simp only [Oper.quietUpon] at h3 <;> simp only [Oper.stillUpon]
    case value u => exact ⟨h3.1, by rw [h3.2]; exact h2⟩
    case skip => exact ⟨h3.1, by rw [← h3.2]; exact h2⟩
    case enter f args => exact ⟨h3.1, v, h3.2, h2⟩
  | halt h w' => simp [Oper.quietUpon] at h3
theorem wpStill_of_quiet {P : Program} {ops : Array Oper} {w : World} {Q : Act → Prop} : ∀ (l : List Oper) (a : Act), wpQuiet P ops (fun w' => w' = w) Q l a → wpStill P ops w Q l a
  | [], _, h => h
  | o :: rest, a, h => by
    unfold wpQuiet at h
    unfold wpStill
    split
    · rename_i hw
      rw [if_pos hw] at h
      refine Oper.still_mono (fun a' h' => wpStill_of_quiet rest a' h') (still_of_quiet h)
    · rename_i hw
      rw [if_neg hw] at h
      exact wpStill_of_quiet rest _ h
/-- A region that draws its order: a head that only reads, walked in the order of the text, and a tail in one order. -/
theorem wp_region_quiet_tail {P : Program} {id : Nat} {Q : Exit → Act → World → Prop} {a : Act} {w : World} {l : List Oper} (n : Nat) (hm : P.follows .mixedOrders = true) (hB : Region.lexTailB .any l.toArray n = true)
    (h : wpQuiet P l.toArray (fun w' => w' = w.drew) (fun a' => wpList P l.toArray Q (l.drop n) a' w.drew) (l.take n) a) : (Code.region id l.toArray true).wp P Q a w :=
  wp_region_still_tail n hm hB (wpStill_of_quiet _ _ h)
theorem LkAt.drew {b : Nat} {s : Lk} {w : World} (h : LkAt b s w) : LkAt b s w.drew := h
theorem grownBy_drew (w : World) (r : Option Nat) : w.grownBy w.drew r := ⟨rfl, rfl, rfl, Nat.le_refl _, fun _ _ _ => rfl⟩
end Go.Proofs.YtmjegeipnaalnaaGreatDoor
