/- What a right value looks like, from top to bottom; the order of its keys; where a key stands. -/
import Derived.Test.YtmjegeipnaalnaaGreatDoorPlace
namespace Go.Proofs.YtmjegeipnaalnaaGreatDoor

/-- Keys that rise, behind a first one. -/
def Rising : Option ByteArray → List ByteArray → Prop
  | _, [] => True
  | p, k :: r => prevOk p k = true ∧ Rising (some k) r
mutual
/-- A right value: so are its parts. -/
def Good : JV → Prop
  | .mk k h t l ks vs => (JV.mk k h t l ks vs).headOk = true ∧ (JV.mk k h t l ks vs).halfOk = true ∧ Rising none ks ∧ GoodL l ∧ GoodL vs
def GoodL : List JV → Prop
  | [] => True
  | x :: r => Good x ∧ GoodL r
end

theorem not_bad {x y : Bool} (h : x = true → y = true) (hy : y = false) : x = false := by cases x <;> simp_all
theorem str_ok {V : ByteArray → Bool} {s : Lk} {t : ByteArray} (h : (s.str V t).bad = false) : s.bad = false := by
  simp [Lk.str] at h; exact h.1
theorem want_ok {s : Lk} {b : Bool} (h : (s.want b).bad = false) : s.bad = false ∧ b = true := by
  simp [Lk.want] at h; exact h
theorem Lk.entries_sticky (V : ByteArray → Bool) (d : Int) (vs : List JV) (ks : List ByteArray) (p : Option ByteArray) (s : Lk) (h : s.bad = true) : (Lk.entries V d vs ks p s).bad = true := by rw [Lk.entries_bad V d vs ks p s h]; exact h
theorem headOk_len {k h : Int} {t : ByteArray} {l vs : List JV} {ks : List ByteArray} (hh : (JV.mk k h t l ks vs).headOk = true) : ks.length = vs.length := by
  simp [JV.headOk] at hh; omega

mutual
theorem good_value (V : ByteArray → Bool) (d : Int) : ∀ (v : JV) (s : Lk), (Lk.value V d v s).bad = false → Good v
  | .mk k h t l ks vs, s, hb => by
    by_cases hp : (s.part d).bad = true
    · simp [Lk.value, hp] at hb
    · have hp' : (s.part d).bad = false := by simpa using hp
      simp only [Lk.value, hp', Bool.false_eq_true, if_false] at hb
      have h1 := not_bad (fun e => Lk.entries_sticky V (d + 1) vs ks none _ e) hb
      have h2 := not_bad (fun e => Lk.list_sticky V (d + 1) l _ e) h1
      have h3 := want_ok (str_ok h2)
      have h4 := want_ok h3.1
      have h5 := good_entries V (d + 1) vs ks none _ (headOk_len h4.2) hb
      unfold Good
      exact ⟨h4.2, h3.2, h5.2, good_list V (d + 1) l _ h1, h5.1⟩
theorem good_list (V : ByteArray → Bool) (d : Int) : ∀ (l : List JV) (s : Lk), (Lk.list V d l s).bad = false → GoodL l
  | [], _, _ => by unfold GoodL; trivial
  | x :: r, s, hb => by
    have h0 := not_bad (fun e => Lk.list_sticky V d (x :: r) s e) hb
    rw [Lk.list_cons_ok V d x r s h0] at hb
    have h1 := not_bad (fun e => Lk.list_sticky V d r _ e) hb
    unfold GoodL
    exact ⟨good_value V d x s h1, good_list V d r _ hb⟩
theorem good_entries (V : ByteArray → Bool) (d : Int) : ∀ (vs : List JV) (ks : List ByteArray) (p : Option ByteArray) (s : Lk), ks.length = vs.length → (Lk.entries V d vs ks p s).bad = false → GoodL vs ∧ Rising p ks
  | [], [], _, _, _, _ => by unfold GoodL Rising; exact ⟨trivial, trivial⟩
  | [], _ :: _, _, _, hl, _ => absurd hl (by simp)
  | _ :: _, [], _, _, hl, _ => absurd hl (by simp)
  | x :: r, k :: ks, p, s, hl, hb => by
    have h0 := not_bad (fun e => Lk.entries_sticky V d (x :: r) (k :: ks) p s e) hb
    rw [Lk.entries_cons_ok V d x r k ks p s h0] at hb
    have h1 := not_bad (fun e => Lk.entries_sticky V d r ks (some k) _ e) hb
    have h2 := good_entries V d r ks (some k) _ (by simpa using hl) hb
    have h3 := not_bad (fun e => Lk.value_bad V d x _ e) h1
    unfold GoodL Rising
    exact ⟨⟨good_value V d x _ h1, h2.1⟩, (want_ok h3).2, h2.2⟩
end
theorem good_of_fit {v : JV} (h : fitB v = true) : Good v := by
  unfold fitB at h
  exact good_value validB 0 v _ (by simpa using h)

theorem GoodL.get : ∀ {l : List JV}, GoodL l → ∀ x ∈ l, Good x
  | [], _, _, hx => by simp at hx
  | y :: r, h, x, hx => by
    unfold GoodL at h
    rcases List.mem_cons.1 hx with e | e
    · exact e ▸ h.1
    · exact GoodL.get h.2 x e

/-- What the head of a right value says. -/
theorem Good.head {k h : Int} {t : ByteArray} {l vs : List JV} {ks : List ByteArray} (hg : Good (.mk k h t l ks vs)) :
    0 ≤ k ∧ k ≤ 6 ∧ (k = 3 ∨ h = 0) ∧ ks.length = vs.length ∧ (k = 5 ∨ l = []) ∧ -18014398509481984 ≤ h ∧ h ≤ 18014398509481984 ∧ (h.tmod 2 = 0 ∨ (-9007199254740992 < h ∧ h < 9007199254740992)) ∧ Rising none ks ∧ GoodL l ∧ GoodL vs := by
  unfold Good at hg
  obtain ⟨h1, h2, h3, h4, h5⟩ := hg
  have hl := headOk_len h1
  simp [JV.headOk] at h1
  simp [JV.halfOk] at h2
  refine ⟨by omega, by omega, ?_, hl, ?_, h2.1.1, h2.1.2, h2.2, h3, h4, h5⟩
  · rcases h1.1.1.1.1.2 with e | e
    · exact .inl e
    · exact .inr e
  · rcases h1.1.1.2 with e | e
    · exact .inl e
    · exact .inr e

theorem bl_irrefl : ∀ x : List UInt8, Op.bytesLess x x = false
  | [] => rfl
  | a :: x => by simp [Op.bytesLess, bl_irrefl x]
theorem bl_trans : ∀ {x y z : List UInt8}, Op.bytesLess x y = true → Op.bytesLess y z = true → Op.bytesLess x z = true
  | x, y, [], _, h2 => by cases y <;> simp [Op.bytesLess] at h2
  | [], _, _ :: _, _, _ => rfl
  | a :: x, [], _, h1, _ => by simp [Op.bytesLess] at h1
  | a :: x, b :: y, c :: z, h1, h2 => by
    simp only [Op.bytesLess, Bool.or_eq_true, Bool.and_eq_true, decide_eq_true_eq, beq_iff_eq] at h1 h2 ⊢
    rcases h1 with h1 | ⟨rfl, h1⟩
    · rcases h2 with h2 | ⟨rfl, h2⟩
      · exact .inl (UInt8.lt_trans h1 h2)
      · exact .inl h1
    · rcases h2 with h2 | ⟨rfl, h2⟩
      · exact .inl h2
      · exact .inr ⟨rfl, bl_trans h1 h2⟩
theorem bl_total : ∀ {x y : List UInt8}, Op.bytesLess x y = false → x ≠ y → Op.bytesLess y x = true
  | [], [], _, h => absurd rfl h
  | [], _ :: _, h, _ => by simp [Op.bytesLess] at h
  | _ :: _, [], _, _ => rfl
  | a :: x, b :: y, h1, h2 => by
    simp only [Op.bytesLess, Bool.or_eq_false_iff, Bool.or_eq_true, Bool.and_eq_true, decide_eq_true_eq, decide_eq_false_iff_not, beq_iff_eq] at h1 ⊢
    obtain ⟨h3, h4⟩ := h1
    by_cases e : a = b
    · subst e
      have h5 : Op.bytesLess x y = false := by simpa using h4
      exact .inr ⟨rfl, bl_total h5 (fun e => h2 (by rw [e]))⟩
    · left
      have h6 : ¬ a.toNat < b.toNat := fun e2 => h3 (UInt8.lt_iff_toNat_lt.2 e2)
      have h7 : a.toNat ≠ b.toNat := fun e2 => e (UInt8.toNat_inj.1 e2)
      exact UInt8.lt_iff_toNat_lt.2 (by omega)

theorem rising_all : ∀ {ks : List ByteArray} {k : ByteArray}, Rising (some k) ks → ∀ x ∈ ks, keyLt k x = true
  | [], _, _, x, hx => by simp at hx
  | y :: r, k, h, x, hx => by
    unfold Rising at h
    have h1 : keyLt k y = true := h.1
    rcases List.mem_cons.1 hx with e | e
    · rw [e]; exact h1
    · exact bl_trans h1 (rising_all h.2 x e)
theorem keyLt_ne {a b : ByteArray} (h : keyLt a b = true) : (a.toList == b.toList) = false := by
  cases hc : a.toList == b.toList with
  | false => rfl
  | true =>
    unfold keyLt at h
    rw [beq_iff_eq.1 hc, bl_irrefl] at h
    cases h
theorem getV_none : ∀ {ks : List ByteArray} {vs : List JV} {x : ByteArray}, (∀ k ∈ ks, (k.toList == x.toList) = false) → getV ks vs x = none
  | [], _, _, _ => by unfold getV; rfl
  | _ :: _, [], _, _ => by unfold getV; rfl
  | k :: r, v :: s, x, h => by
    unfold getV
    rw [h k (by simp)]
    simp only [Bool.false_eq_true, if_false]
    exact getV_none fun y hy => h y (by simp [hy])
theorem isAt_cons (k : ByteArray) (r : List ByteArray) (x : ByteArray) : isAt (k :: r) x = if keyLt k x = true then isAt r x else k.toList == x.toList := by
  by_cases hk : keyLt k x = true
  · have hp : placeN (k :: r) x = placeN r x + 1 := by simp [placeN, hk]
    unfold isAt
    rw [hp, if_pos hk]
    simp
  · have hp : placeN (k :: r) x = 0 := by simp [placeN, hk]
    unfold isAt
    rw [hp, if_neg hk]
    simp
/-- Where the keys rise, the place of a key tells whether it is there, and which value is its. -/
theorem getV_isAt (x : ByteArray) : ∀ {ks : List ByteArray} {vs : List JV} {p : Option ByteArray}, Rising p ks → ks.length = vs.length →
    (isAt ks x = true ∧ ∃ h : placeN ks x < vs.length, getV ks vs x = some vs[placeN ks x]) ∨ (isAt ks x = false ∧ getV ks vs x = none)
  | [], [], _, _, _ => .inr ⟨by simp [isAt], by unfold getV; rfl⟩
  | [], _ :: _, _, _, hl => absurd hl (by simp)
  | _ :: _, [], _, _, hl => absurd hl (by simp)
  | k :: r, v :: s, p, h, hl => by
    unfold Rising at h
    rw [isAt_cons]
    by_cases hk : keyLt k x = true
    · have ne := keyLt_ne hk
      have hp : placeN (k :: r) x = placeN r x + 1 := by simp [placeN, hk]
      have hg : getV (k :: r) (v :: s) x = getV r s x := by conv => lhs; unfold getV; rw [ne]; simp only [Bool.false_eq_true, if_false]
      rw [if_pos hk, hg]
      rcases getV_isAt x h.2 (show r.length = s.length by simpa using hl) with ⟨h1, h2, h3⟩ | h1
      · refine .inl ⟨h1, by rw [hp]; simpa using h2, ?_⟩
        rw [h3]
        simp [hp]
      · exact .inr h1
    · rw [if_neg hk]
      have hp : placeN (k :: r) x = 0 := by simp [placeN, hk]
      cases he : k.toList == x.toList with
      | true =>
        refine .inl ⟨rfl, by rw [hp]; simp, ?_⟩
        conv => lhs; unfold getV; rw [he]; simp only [if_true]
        simp [hp]
      | false =>
        refine .inr ⟨rfl, getV_none fun y hy => ?_⟩
        rcases List.mem_cons.1 hy with e | e
        · rw [e]; exact he
        · have hxk : keyLt x k = true := bl_total (by simpa [keyLt] using hk) (fun e2 => by rw [e2] at he; simp at he)
          have hky := rising_all h.2 y e
          have hxy : keyLt x y = true := bl_trans hxk hky
          have := keyLt_ne hxy
          cases hc : y.toList == x.toList with
          | false => rfl
          | true => rw [beq_iff_eq.1 hc] at this; simp at this
end Go.Proofs.YtmjegeipnaalnaaGreatDoor
