/- Halves of integers as Go's floats: what their bits stand for, and when two of them are equal. The Go values that the program makes of right values: what it means that a value of Go's type any stands for a tree. -/
import Derived.Laws.FloatArith
import Derived.Test.YtmjegeipnaalnaaGreatDoorGrFind

/- Halves of integers as Go's floats: what their bits stand for, and when two of them are equal. -/
namespace Go.Proofs.YtmjegeipnaalnaaGreatDoor
open Ieee

theorem log2_is {m k : Nat} (h1 : 2 ^ k ≤ m) (h2 : m < 2 ^ (k + 1)) : m.log2 = k := by
  have h0 : m ≠ 0 := by have := Nat.two_pow_pos k; omega
  exact (Nat.log2_eq_iff h0).2 ⟨h1, h2⟩

theorem read_word (neg : Bool) (m j : Nat) (h1 : 4503599627370496 ≤ m) (h2 : m < 9007199254740992) (h3 : j ≤ 2000) :
    double.read (double.word neg (j * 4503599627370496 + m)) = .number neg m (-1074 + j) := by
  have hs : double.signWeight = 9223372036854775808 := by decide
  have hb : double.binade = 4503599627370496 := by decide
  have hi : double.infRung = 9218868437227405312 := by decide
  have hl : double.leastPlace = -1074 := by decide
  have e1 : ∀ r : Nat, r < 9223372036854775808 → ((if neg then 9223372036854775808 + r else r) / 9223372036854775808 % 2 == 1) = neg := by
    intro r hr
    cases neg
    · simp only [Bool.false_eq_true, if_false]; rw [Nat.div_eq_of_lt hr]; rfl
    · simp only [if_true]; rw [show (9223372036854775808 + r) / 9223372036854775808 = 1 by omega]; rfl
  have e2 : ∀ r : Nat, r < 9223372036854775808 → (if neg then 9223372036854775808 + r else r) % 9223372036854775808 = r := by
    intro r hr
    cases neg
    · simp only [Bool.false_eq_true, if_false]; omega
    · simp only [if_true]; omega
  unfold Format.read Format.word
  simp only [hs, hb, hi, hl]
  rw [e1 _ (by omega), e2 _ (by omega)]
  rw [if_neg (by omega), if_pos (by omega)]
  have a1 : 4503599627370496 + (j * 4503599627370496 + m) % 4503599627370496 = m := by omega
  have a2 : (j * 4503599627370496 + m) / 4503599627370496 - 1 = j := by omega
  rw [a1, a2]

theorem cut_zero (neg : Bool) (n : Nat) : Toward.even.cut neg n 0 = n := by
  simp [Toward.cut, Nat.mod_one]

theorem nearest_short (neg : Bool) (m L : Nat) (h1 : 2 ^ L ≤ m) (h2 : m < 2 ^ (L + 1)) (hL : L ≤ 52) :
    double.nearest neg m 0 = double.word neg ((L + 1022) * 4503599627370496 + m * 2 ^ (52 - L)) := by
  have hb : double.binade = 4503599627370496 := by decide
  have hi : double.infRung = 9218868437227405312 := by decide
  have hl : double.leastPlace = -1074 := by decide
  have hf : double.fractionBits = 52 := rfl
  have h0 : m ≠ 0 := by have := Nat.two_pow_pos L; omega
  have hlt : m * 2 ^ (52 - L) < 9007199254740992 := by
    have : m * 2 ^ (52 - L) < 2 ^ (L + 1) * 2 ^ (52 - L) := Nat.mul_lt_mul_of_pos_right h2 (Nat.two_pow_pos _)
    rw [← Nat.pow_add, show L + 1 + (52 - L) = 53 by omega] at this
    exact this
  unfold Format.nearest
  rw [if_neg h0]
  simp only [hb, hi, hl, hf, log2_is h1 h2]
  have a1 : max (0 + (L : Int) - ((52 : Nat) : Int)) (-1074) = (L : Int) - 52 := by omega
  rw [a1]
  rw [show ((L : Int) - 52 - 0).toNat = 0 by omega, cut_zero, show (0 - ((L : Int) - 52)).toNat = 52 - L by omega, Nat.shiftLeft_eq]
  rw [show ((L : Int) - 52 - -1074).toNat = L + 1022 by omega]
  rw [Nat.min_eq_left (by omega)]

/-- The word stands for so many halves (base is any place below it). -/
def FHalf (b : Nat) (q : Int) (i : Int) : Prop :=
  ∃ s m, double.read b = .number s m i ∧ ∀ base : Int, base ≤ i → base ≤ -1 → signed s m (i - base).toNat = q * (2 ^ (-1 - base).toNat : Nat)

theorem order_half {a b : Nat} {p q i j : Int} (ha : FHalf a p i) (hb : FHalf b q j) (h : min i j ≤ -1) : (double.order a b == some .eq) = (p == q) := by
  obtain ⟨s, m, h1, h2⟩ := ha
  obtain ⟨t, n, h3, h4⟩ := hb
  unfold Format.order
  rw [h1, h3]
  simp only [Datum.order]
  rw [h2 (min i j) (Int.min_le_left ..) h, h4 (min i j) (Int.min_le_right ..) h]
  have hpos : (0 : Int) < (2 ^ (-1 - min i j).toNat : Nat) := by exact_mod_cast Nat.two_pow_pos _
  generalize ((2 ^ (-1 - min i j).toNat : Nat) : Int) = d at hpos
  by_cases e : p = q
  · subst e
    simp
  · have ne : p * d ≠ q * d := fun e2 => e (Int.eq_of_mul_eq_mul_right (by omega) e2)
    have e1 : (p == q) = false := by simpa using e
    rw [e1]
    have hc : compare (p * d) (q * d) ≠ .eq := fun e3 => ne (Int.compare_eq_eq.1 e3)
    cases hd : compare (p * d) (q * d) with
    | eq => exact absurd hd hc
    | lt => rfl
    | gt => rfl

theorem signed_mul (s : Bool) (m a b : Nat) : signed s (m * 2 ^ a) b = (if s then -(m : Int) else m) * (2 ^ (a + b) : Nat) := by
  unfold signed
  rw [Nat.shiftLeft_eq, Nat.mul_assoc, ← Nat.pow_add]
  cases s
  · simp
  · simp [Int.neg_mul]

theorem bits_of (n : Int) (h1 : n ≠ 0) (h2 : -9007199254740992 < n) (h3 : n < 9007199254740992) : ∃ L, 2 ^ L ≤ n.natAbs ∧ n.natAbs < 2 ^ (L + 1) ∧ L ≤ 52 := by
  refine ⟨n.natAbs.log2, Nat.log2_self_le (by omega), Nat.lt_log2_self, ?_⟩
  have : n.natAbs.log2 < 53 := (Nat.log2_lt (by omega)).2 (by show n.natAbs < 9007199254740992; omega)
  omega

theorem sign_abs (n : Int) : (if (decide (n < 0)) = true then -(n.natAbs : Int) else n.natAbs) = n := by
  by_cases h : n < 0
  · simp [h]; omega
  · simp [h]; omega

theorem read_int (n : Int) (L : Nat) (h1 : 2 ^ L ≤ n.natAbs) (h2 : n.natAbs < 2 ^ (L + 1)) (h3 : L ≤ 52) :
    double.read (floatOfInt .f64 n) = .number (n < 0) (n.natAbs * 2 ^ (52 - L)) (L - 52) ∧ 4503599627370496 ≤ n.natAbs * 2 ^ (52 - L) ∧ n.natAbs * 2 ^ (52 - L) < 9007199254740992 := by
  have hlt : n.natAbs * 2 ^ (52 - L) < 9007199254740992 := by
    have : n.natAbs * 2 ^ (52 - L) < 2 ^ (L + 1) * 2 ^ (52 - L) := Nat.mul_lt_mul_of_pos_right h2 (Nat.two_pow_pos _)
    rw [← Nat.pow_add, show L + 1 + (52 - L) = 53 by omega] at this
    exact this
  have hge : 4503599627370496 ≤ n.natAbs * 2 ^ (52 - L) := by
    have : 2 ^ L * 2 ^ (52 - L) ≤ n.natAbs * 2 ^ (52 - L) := Nat.mul_le_mul_right _ h1
    rw [← Nat.pow_add, show L + (52 - L) = 52 by omega] at this
    exact this
  refine ⟨?_, hge, hlt⟩
  show double.read (double.nearest (n < 0) n.natAbs 0) = _
  have e : (-1074 : Int) + ((L + 1022 : Nat) : Int) = (L : Int) - 52 := by omega
  rw [nearest_short _ _ L h1 h2 h3, read_word _ _ _ hge hlt (by omega), e]

/-- An integer as a float. -/
theorem half_int (n : Int) (h1 : -9007199254740992 ≤ n) (h2 : n ≤ 9007199254740992) : ∃ i, FHalf (floatOfInt .f64 n) (2 * n) i := by
  by_cases h0 : n = 0
  · subst h0
    refine ⟨-1074, false, 0, by decide, fun base _ _ => ?_⟩
    simp [signed]
  by_cases h3 : n = 9007199254740992
  · subst h3
    refine ⟨1, false, 4503599627370496, by decide, fun base _ hb => ?_⟩
    have := signed_mul false 1 52 (1 - base).toNat
    rw [show 1 * 2 ^ 52 = 4503599627370496 by decide] at this
    rw [this, show 52 + (1 - base).toNat = 54 + (-1 - base).toNat by omega, Nat.pow_add]
    simp
  by_cases h4 : n = -9007199254740992
  · subst h4
    refine ⟨1, true, 4503599627370496, by decide, fun base _ hb => ?_⟩
    have := signed_mul true 1 52 (1 - base).toNat
    rw [show 1 * 2 ^ 52 = 4503599627370496 by decide] at this
    rw [this, show 52 + (1 - base).toNat = 54 + (-1 - base).toNat by omega, Nat.pow_add]
    simp
    omega
  obtain ⟨L, h5, h6, h7⟩ := bits_of n h0 (by omega) (by omega)
  obtain ⟨h8, _, _⟩ := read_int n L h5 h6 h7
  refine ⟨L - 52, _, _, h8, fun base hi hb => ?_⟩
  rw [signed_mul, sign_abs, show 52 - L + ((L : Int) - 52 - base).toNat = 1 + (-1 - base).toNat by omega, Nat.pow_add]
  simp [Int.mul_assoc, Int.mul_comm]

/-- The float that is half of an integer. -/
def halfBits (h : Int) : Nat := (floatBits .quo .f64 (floatOfInt .f64 h) 4611686018427387904).getD 0

theorem nearest_eight (neg : Bool) (m j : Nat) (p : Int) (h1 : 4503599627370496 ≤ m) (h2 : m < 9007199254740992) (hp : p = -1077 + j) (hj : j ≤ 2000) :
    double.nearest neg (8 * m) p = double.word neg (j * 4503599627370496 + m) := by
  have hb : double.binade = 4503599627370496 := by decide
  have hi : double.infRung = 9218868437227405312 := by decide
  have hl : double.leastPlace = -1074 := by decide
  have hf : double.fractionBits = 52 := rfl
  unfold Format.nearest
  rw [if_neg (by omega)]
  have hlog : (8 * m).log2 = 55 := log2_is (by show 36028797018963968 ≤ 8 * m; omega) (by show 8 * m < 72057594037927936; omega)
  simp only [hb, hi, hl, hf, hlog]
  have a1 : max (p + ((55 : Nat) : Int) - ((52 : Nat) : Int)) (-1074) = p + 3 := by omega
  rw [a1, show (p - (p + 3)).toNat = 0 by omega, show (p + 3 - p).toNat = 3 by omega, show (p + 3 - -1074).toNat = j by omega]
  have hc : Toward.even.cut neg ((8 * m) <<< 0) 3 = m := by
    unfold Toward.cut
    rw [Nat.shiftLeft_zero, hlog]
    have g : 1 <<< min 3 (55 + 2) = 8 := by decide
    simp only [g]
    rw [show 8 * m / 8 = m by omega, show 8 * m % 8 = 0 by omega]
    simp
  rw [hc, Nat.min_eq_left (by omega)]

theorem half_odd (h : Int) (h0 : h ≠ 0) (h1 : -9007199254740992 < h) (h2 : h < 9007199254740992) :
    floatBits .quo .f64 (floatOfInt .f64 h) 4611686018427387904 = some (halfBits h) ∧ ∃ i, i ≤ -1 ∧ FHalf (halfBits h) h i := by
  obtain ⟨L, h5, h6, h7⟩ := bits_of h h0 h1 h2
  obtain ⟨h8, h9, h10⟩ := read_int h L h5 h6 h7
  have htwo : double.read 4611686018427387904 = .number false 4503599627370496 (-51) := by decide
  have hq : floatBits .quo .f64 (floatOfInt .f64 h) 4611686018427387904 = some (double.word (h < 0) ((L + 1021) * 4503599627370496 + h.natAbs * 2 ^ (52 - L))) := by
    show (((double.read (floatOfInt .f64 h)).quotient (double.fractionBits + 2) (double.read 4611686018427387904)).map double.write) = _
    rw [h8, htwo]
    generalize hm : h.natAbs * 2 ^ (52 - L) = m at h9 h10
    have hlog : m.log2 = 52 := log2_is (by show 4503599627370496 ≤ m; omega) (by show m < 9007199254740992; omega)
    have hlog2 : Nat.log2 4503599627370496 = 52 := log2_is (by decide) (by decide)
    have hf : double.fractionBits = 52 := rfl
    simp only [Datum.quotient, hf, hlog, hlog2]
    rw [if_neg (by decide)]
    simp only [Option.map_some, Format.write]
    have e1 : m <<< (52 + 2 + 52 - 52) = 4503599627370496 * (4 * m) := by
      rw [Nat.shiftLeft_eq]
      rw [show 2 ^ (52 + 2 + 52 - 52) = 18014398509481984 by decide]
      omega
    rw [e1, Nat.mul_div_cancel_left _ (by decide), Nat.mul_mod_right]
    have e2 : 2 * (4 * m) + (((0 : Nat) != 0).toNat) = 8 * m := by simp; omega
    rw [e2, nearest_eight _ m (L + 1021) _ h9 h10 (by omega) (by omega)]
    rw [show (decide (h < 0) ^^ false) = decide (h < 0) by simp]
  have hh : halfBits h = double.word (h < 0) ((L + 1021) * 4503599627370496 + h.natAbs * 2 ^ (52 - L)) := by
    unfold halfBits; rw [hq]; rfl
  refine ⟨by rw [hq, hh], L - 53, by omega, decide (h < 0), h.natAbs * 2 ^ (52 - L), ?_, fun base hi hb => ?_⟩
  · have e : (-1074 : Int) + ((L + 1021 : Nat) : Int) = (L : Int) - 53 := by omega
    rw [hh, read_word _ _ _ h9 h10 (by omega), e]
  · rw [signed_mul, sign_abs, show 52 - L + ((L : Int) - 53 - base).toNat = (-1 - base).toNat by omega]
end Go.Proofs.YtmjegeipnaalnaaGreatDoor

/- The Go values that the program makes of right values: what it means that a value of Go's type any stands for a tree. -/
namespace Go.Proofs.YtmjegeipnaalnaaGreatDoor
open Go.RowKit

mutual
/-- A Go value stands for a tree; its blocks lie from lo on, below B. -/
def GRep (w : World) (lo B : Nat) : JV → Value → Prop
  | .mk k h t l ks vs, x =>
    (k = 0 ∧ x = .nilIface) ∨ (k = 1 ∧ x = .iface 4 (.bool false)) ∨ (k = 2 ∧ x = .iface 4 (.bool true)) ∨
    (k = 3 ∧ ∃ n, h = 2 * n ∧ -9007199254740992 ≤ n ∧ n ≤ 9007199254740992 ∧ x = .iface 3 (.int .i64 n)) ∨
    (k = 3 ∧ h % 2 = 1 ∧ -9007199254740992 < h ∧ h < 9007199254740992 ∧ x = .iface 79 (.float .f64 (halfBits h))) ∨
    (k = 4 ∧ t.size ≤ 140737488351232 ∧ x = .iface 9 (.string t)) ∨
    (k = 5 ∧ ∃ b cs T, lo ≤ b ∧ b < B ∧ x = .iface 80 (.slice (some ⟨b, 0, none⟩) l.length l.length) ∧ l.length ≤ 9000000000000 ∧ w.heap[b]? = some (.cells (List.toArray cs) T (0, 0)) ∧ GVals w lo B l cs) ∨
    (k = 6 ∧ ∃ b es, lo ≤ b ∧ b < B ∧ x = .iface 83 (.map (some b)) ∧ w.heap[b]? = some (.map (List.toArray es) es.length) ∧ es.length ≤ 9000000000000 ∧ es.map (·.key) = ks.map Value.string ∧ es.map (·.born) = List.range es.length ∧ GVals w lo B vs (es.map (·.val)))
def GVals (w : World) (lo B : Nat) : List JV → List Value → Prop
  | [], cs => cs = []
  | y :: r, cs => ∃ c cs', cs = c :: cs' ∧ GRep w lo B y c ∧ GVals w lo B r cs'
end

mutual
theorem GRep.mono {w w' : World} {lo lo' B B' : Nat} (hk : ∀ k, lo ≤ k → k < B → w'.heap[k]? = w.heap[k]?) (h1 : lo' ≤ lo) (h2 : B ≤ B') : ∀ (v : JV) (x : Value), GRep w lo B v x → GRep w' lo' B' v x
  | .mk k h t l ks vs, x, hr => by
    unfold GRep at hr ⊢
    rcases hr with e | e | e | e | e | e | ⟨e, b, cs, T, h3, h4, h5, h6, h7, h8⟩ | ⟨e, b, es, h3, h4, h5, h6, h7, h8, h9, h10⟩
    · exact .inl e
    · exact .inr (.inl e)
    · exact .inr (.inr (.inl e))
    · exact .inr (.inr (.inr (.inl e)))
    · exact .inr (.inr (.inr (.inr (.inl e))))
    · exact .inr (.inr (.inr (.inr (.inr (.inl e)))))
    · exact .inr (.inr (.inr (.inr (.inr (.inr (.inl ⟨e, b, cs, T, by omega, by omega, h5, h6, (hk b h3 h4).trans h7, GVals.mono hk h1 h2 l cs h8⟩))))))
    · exact .inr (.inr (.inr (.inr (.inr (.inr (.inr ⟨e, b, es, by omega, by omega, h5, (hk b h3 h4).trans h6, h7, h8, h9, GVals.mono hk h1 h2 vs _ h10⟩))))))
theorem GVals.mono {w w' : World} {lo lo' B B' : Nat} (hk : ∀ k, lo ≤ k → k < B → w'.heap[k]? = w.heap[k]?) (h1 : lo' ≤ lo) (h2 : B ≤ B') : ∀ (l : List JV) (cs : List Value), GVals w lo B l cs → GVals w' lo' B' l cs
  | [], cs, h => by unfold GVals at h ⊢; exact h
  | y :: r, cs, h => by
    unfold GVals at h ⊢
    obtain ⟨c, cs', h3, h4, h5⟩ := h
    exact ⟨c, cs', h3, GRep.mono hk h1 h2 y c h4, GVals.mono hk h1 h2 r cs' h5⟩
end
theorem GRep.below {w w' : World} {lo B B' : Nat} {v : JV} {x : Value} (h : GRep w lo B v x) (hb : Below B w w') (hB : B ≤ B') : GRep w' lo B' v x :=
  GRep.mono (fun k _ hk => hb.block k hk) (Nat.le_refl _) hB v x h
theorem GVals.below {w w' : World} {lo B B' : Nat} {l : List JV} {cs : List Value} (h : GVals w lo B l cs) (hb : Below B w w') (hB : B ≤ B') : GVals w' lo B' l cs :=
  GVals.mono (fun k _ hk => hb.block k hk) (Nat.le_refl _) hB l cs h

theorem GVals.length {w : World} {lo B : Nat} : ∀ {l : List JV} {cs : List Value}, GVals w lo B l cs → cs.length = l.length
  | [], cs, h => by unfold GVals at h; simp [h]
  | y :: r, cs, h => by
    unfold GVals at h
    obtain ⟨c, cs', rfl, _, h5⟩ := h
    simp [GVals.length h5]
theorem GVals.get {w : World} {lo B : Nat} : ∀ {l : List JV} {cs : List Value}, GVals w lo B l cs → ∀ (i : Nat) (hi : i < l.length) (hc : i < cs.length), GRep w lo B l[i] cs[i]
  | [], _, _, i, hi, _ => absurd hi (by simp)
  | y :: r, cs, h, i, hi, hc => by
    unfold GVals at h
    obtain ⟨c, cs', rfl, h4, h5⟩ := h
    cases i with
    | zero => exact h4
    | succ i => exact GVals.get h5 i (by simpa using hi) (by simpa using hc)
theorem GVals.snoc {w : World} {lo B : Nat} {y : JV} {c : Value} (hy : GRep w lo B y c) : ∀ {l : List JV} {cs : List Value}, GVals w lo B l cs → GVals w lo B (l ++ [y]) (cs ++ [c])
  | [], cs, h => by
    unfold GVals at h
    subst h
    show GVals w lo B [y] [c]
    unfold GVals
    exact ⟨c, [], rfl, hy, by unfold GVals; rfl⟩
  | z :: r, cs, h => by
    unfold GVals at h
    obtain ⟨d, cs', rfl, h4, h5⟩ := h
    show GVals w lo B (z :: (r ++ [y])) (d :: (cs' ++ [c]))
    unfold GVals
    exact ⟨d, cs' ++ [c], rfl, h4, GVals.snoc hy h5⟩
theorem GVals.nil {w : World} {lo B : Nat} : GVals w lo B [] [] := by unfold GVals; rfl
end Go.Proofs.YtmjegeipnaalnaaGreatDoor
