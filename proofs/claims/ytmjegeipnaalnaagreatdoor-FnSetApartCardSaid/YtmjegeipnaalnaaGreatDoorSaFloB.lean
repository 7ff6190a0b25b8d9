/- Halves as Go's floats, and back: twice a half is the integer's float; cut it stays; as an integer it is the integer. -/
import Derived.Test.YtmjegeipnaalnaaGreatDoorSaFlo
namespace Go.Proofs.YtmjegeipnaalnaaGreatDoor
open Ieee

theorem int_word (h : Int) (L : Nat) (h5 : 2 ^ L ≤ h.natAbs) (h6 : h.natAbs < 2 ^ (L + 1)) (h7 : L ≤ 52) : floatOfInt .f64 h = double.word (h < 0) ((L + 1022) * 4503599627370496 + h.natAbs * 2 ^ (52 - L)) := by
  show double.nearest (h < 0) h.natAbs 0 = _
  exact nearest_short _ _ L h5 h6 h7

theorem nearest_big (neg : Bool) (m j : Nat) (p : Int) (h1 : 4503599627370496 ≤ m) (h2 : m < 9007199254740992) (hp : p = -1126 + j) (hj : j ≤ 2000) :
    double.nearest neg (4503599627370496 * m) p = double.word neg (j * 4503599627370496 + m) := by
  have hb : double.binade = 4503599627370496 := by decide
  have hi : double.infRung = 9218868437227405312 := by decide
  have hl : double.leastPlace = -1074 := by decide
  have hf : double.fractionBits = 52 := rfl
  unfold Format.nearest
  rw [if_neg (by omega)]
  have hlog : (4503599627370496 * m).log2 = 104 := log2_is (by show 20282409603651670423947251286016 ≤ 4503599627370496 * m; omega) (by show 4503599627370496 * m < 40564819207303340847894502572032; omega)
  simp only [hb, hi, hl, hf, hlog]
  have a1 : max (p + ((104 : Nat) : Int) - ((52 : Nat) : Int)) (-1074) = p + 52 := by omega
  rw [a1, show (p - (p + 52)).toNat = 0 by omega, show (p + 52 - p).toNat = 52 by omega, show (p + 52 - -1074).toNat = j by omega]
  have hc : Toward.even.cut neg ((4503599627370496 * m) <<< 0) 52 = m := by
    unfold Toward.cut
    rw [Nat.shiftLeft_zero, hlog]
    have g : 1 <<< min 52 (104 + 2) = 4503599627370496 := by decide
    simp only [g]
    rw [Nat.mul_div_cancel_left _ (by decide), Nat.mul_mod_right]
    simp
  rw [hc, Nat.min_eq_left (by omega)]

/-- What the bits of a half stand for. -/
theorem half_read (h : Int) (L : Nat) (_h0 : h ≠ 0) (_h1 : -9007199254740992 < h) (_h2 : h < 9007199254740992) (h5 : 2 ^ L ≤ h.natAbs) (h6 : h.natAbs < 2 ^ (L + 1)) (h7 : L ≤ 52) : double.read (halfBits h) = .number (h < 0) (h.natAbs * 2 ^ (52 - L)) (L - 53) := by
  obtain ⟨h8, h9, h10⟩ := read_int h L h5 h6 h7
  have htwo : double.read 4611686018427387904 = .number false 4503599627370496 (-51) := by decide
  have hq : floatBits .quo .f64 (floatOfInt .f64 h) 4611686018427387904 = some (double.word (h < 0) ((L + 1021) * 4503599627370496 + h.natAbs * 2 ^ (52 - L))) := by
    show (((double.read (floatOfInt .f64 h)).quotient (double.fractionBits + 2) (double.read 4611686018427387904)).map double.write) = _
    rw [h8, htwo]
    generalize hm : h.natAbs * 2 ^ (52 - L) = m at h9 h10
    have hlog : m.log2 = 52 := log2_is (by show 4503599627370496 ≤ m; omega) (by show m < 9007199254740992; omega)
    have hlog2 : Nat.log2 4503599627370496 = 52 := log2_is (by decide) (by decide)
    have hf : double.fractionBits = 52 := rfl
    simp only [Datum.quotient, hf, hlog, hlog2]
    rw [if_neg (by decide)]
    simp only [Option.map_some, Format.write]
    have e1 : m <<< (52 + 2 + 52 - 52) = 4503599627370496 * (4 * m) := by
      rw [Nat.shiftLeft_eq]
      rw [show 2 ^ (52 + 2 + 52 - 52) = 18014398509481984 by decide]
      omega
    rw [e1, Nat.mul_div_cancel_left _ (by decide), Nat.mul_mod_right]
    have e2 : 2 * (4 * m) + (((0 : Nat) != 0).toNat) = 8 * m := by simp; omega
    rw [e2, nearest_eight _ m (L + 1021) _ h9 h10 (by omega) (by omega)]
    rw [show (decide (h < 0) ^^ false) = decide (h < 0) by simp]
  have hh : halfBits h = double.word (h < 0) ((L + 1021) * 4503599627370496 + h.natAbs * 2 ^ (52 - L)) := by
    unfold halfBits; rw [hq]; rfl
  have e : (-1074 : Int) + ((L + 1021 : Nat) : Int) = (L : Int) - 53 := by omega
  rw [hh, read_word _ _ _ h9 h10 (by omega), e]

/-- Twice a half. -/
theorem twice_half (h : Int) (h0 : h ≠ 0) (h1 : -9007199254740992 < h) (h2 : h < 9007199254740992) : floatBits .mul .f64 4611686018427387904 (halfBits h) = some (floatOfInt .f64 h) := by
  obtain ⟨L, h5, h6, h7⟩ := bits_of h h0 h1 h2
  obtain ⟨_, h9, h10⟩ := read_int h L h5 h6 h7
  have htwo : double.read 4611686018427387904 = .number false 4503599627370496 (-51) := by decide
  have hr : double.read (halfBits h) = .number (h < 0) (h.natAbs * 2 ^ (52 - L)) (L - 53) := half_read h L h0 h1 h2 h5 h6 h7
  show (((double.read 4611686018427387904).product (double.read (halfBits h))).map double.write) = _
  rw [hr, htwo]
  simp only [Datum.product, Option.map_some, Format.write]
  rw [nearest_big _ _ (L + 1022) _ h9 h10 (by omega) (by omega), int_word h L h5 h6 h7]
  rw [show (false ^^ decide (h < 0)) = decide (h < 0) by simp]

theorem cut_exact (neg : Bool) (a d : Nat) (ha : 0 < a) : Toward.zero.cut neg (a * 2 ^ d) d = a := by
  unfold Toward.cut
  have hd : min d ((a * 2 ^ d).log2 + 2) = d := by
    refine Nat.min_eq_left ?_
    have : d ≤ (a * 2 ^ d).log2 := (Nat.le_log2 (by have := Nat.two_pow_pos d; exact Nat.pos_iff_ne_zero.1 (Nat.mul_pos ha this))).2 (Nat.le_mul_of_pos_left _ ha)
    omega
  rw [hd, Nat.one_shiftLeft]
  simp only [Nat.mul_div_cancel _ (Nat.two_pow_pos d)]
  simp
theorem integral_int (h : Int) (h0 : h ≠ 0) (h1 : -9007199254740992 < h) (h2 : h < 9007199254740992) : (double.read (floatOfInt .f64 h)).integral .zero = .number (h < 0) h.natAbs 0 := by
  obtain ⟨L, h5, h6, h7⟩ := bits_of h h0 h1 h2
  obtain ⟨h8, _, _⟩ := read_int h L h5 h6 h7
  rw [h8]
  simp only [Datum.integral]
  rw [show ((L : Int) - 52).toNat = 0 by omega, show (-((L : Int) - 52)).toNat = 52 - L by omega, Nat.shiftLeft_zero, cut_exact _ _ _ (by omega)]
/-- Cut to an integer it stays. -/
theorem trunc_int (h : Int) (h0 : h ≠ 0) (h1 : -9007199254740992 < h) (h2 : h < 9007199254740992) : double.write ((double.read (floatOfInt .f64 h)).integral .zero) = floatOfInt .f64 h := by
  rw [integral_int h h0 h1 h2]; rfl
/-- As an integer it is that integer. -/
theorem toInt_int (h : Int) (h0 : h ≠ 0) (h1 : -9007199254740992 < h) (h2 : h < 9007199254740992) : floatToIntVal .f64 (floatOfInt .f64 h) .i64 = some h := by
  unfold floatToIntVal
  have e : (FloatKind.f64.decode (floatOfInt .f64 h)).toInt .zero = some h := by
    show ((double.read (floatOfInt .f64 h)).toInt .zero) = some h
    unfold Datum.toInt
    rw [integral_int h h0 h1 h2]
    show some (signed (h < 0) h.natAbs 0) = some h
    unfold signed
    rw [Nat.shiftLeft_zero]
    congr 1
    by_cases hn : h < 0
    · simp [hn]; omega
    · simp [hn]; omega
  rw [e]
  have hmin : IntKind.i64.min = -9223372036854775808 := by decide
  have hmax : IntKind.i64.max = 9223372036854775807 := by decide
  show (if IntKind.i64.min ≤ h ∧ h ≤ IntKind.i64.max then some h else none) = some h
  rw [hmin, hmax, if_pos ⟨by omega, by omega⟩]
end Go.Proofs.YtmjegeipnaalnaaGreatDoor
