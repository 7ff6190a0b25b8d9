/- Halves as Go's floats, and back: twice a half is the integer's float; cut it stays; as an integer it is the integer. A float that is half of an odd integer, as a value of the thin package: the walk. A float that is half of an odd integer, as a value of the thin package: the walk. -/
import Derived.Test.YtmjegeipnaalnaaGreatDoorGrFlo
import Derived.Test.YtmjegeipnaalnaaGreatDoorGrHoldsM
import Derived.Laws.Externs

/- Halves as Go's floats, and back: twice a half is the integer's float; cut it stays; as an integer it is the integer. -/
namespace Go.Proofs.YtmjegeipnaalnaaGreatDoor
open Ieee

theorem int_word (h : Int) (L : Nat) (h5 : 2 ^ L ≤ h.natAbs) (h6 : h.natAbs < 2 ^ (L + 1)) (h7 : L ≤ 52) : floatOfInt .f64 h = double.word (h < 0) ((L + 1022) * 4503599627370496 + h.natAbs * 2 ^ (52 - L)) := by
  show double.nearest (h < 0) h.natAbs 0 = _
  exact nearest_short _ _ L h5 h6 h7

theorem nearest_big (neg : Bool) (m j : Nat) (p : Int) (h1 : 4503599627370496 ≤ m) (h2 : m < 9007199254740992) (hp : p = -1126 + j) (hj : j ≤ 2000) :
    double.nearest neg (4503599627370496 * m) p = double.word neg (j * 4503599627370496 + m) := by
  have hb : double.binade = 4503599627370496 := by decide
  have hi : double.infRung = 9218868437227405312 := by decide
  have hl : double.leastPlace = -1074 := by decide
  have hf : double.fractionBits = 52 := rfl
  unfold Format.nearest
  rw [if_neg (by omega)]
  have hlog : (4503599627370496 * m).log2 = 104 := log2_is (by show 20282409603651670423947251286016 ≤ 4503599627370496 * m; omega) (by show 4503599627370496 * m < 40564819207303340847894502572032; omega)
  simp only [hb, hi, hl, hf, hlog]
  have a1 : max (p + ((104 : Nat) : Int) - ((52 : Nat) : Int)) (-1074) = p + 52 := by omega
  rw [a1, show (p - (p + 52)).toNat = 0 by omega, show (p + 52 - p).toNat = 52 by omega, show (p + 52 - -1074).toNat = j by omega]
  have hc : Toward.even.cut neg ((4503599627370496 * m) <<< 0) 52 = m := by
    unfold Toward.cut
    rw [Nat.shiftLeft_zero, hlog]
    have g : 1 <<< min 52 (104 + 2) = 4503599627370496 := by decide
    simp only [g]
    rw [Nat.mul_div_cancel_left _ (by decide), Nat.mul_mod_right]
    simp
  rw [hc, Nat.min_eq_left (by omega)]

/-- What the bits of a half stand for. -/
theorem half_read (h : Int) (L : Nat) (_h0 : h ≠ 0) (_h1 : -9007199254740992 < h) (_h2 : h < 9007199254740992) (h5 : 2 ^ L ≤ h.natAbs) (h6 : h.natAbs < 2 ^ (L + 1)) (h7 : L ≤ 52) : double.read (halfBits h) = .number (h < 0) (h.natAbs * 2 ^ (52 - L)) (L - 53) := by
  obtain ⟨h8, h9, h10⟩ := read_int h L h5 h6 h7
  have htwo : double.read 4611686018427387904 = .number false 4503599627370496 (-51) := by decide
  have hq : floatBits .quo .f64 (floatOfInt .f64 h) 4611686018427387904 = some (double.word (h < 0) ((L + 1021) * 4503599627370496 + h.natAbs * 2 ^ (52 - L))) := by
    show (((double.read (floatOfInt .f64 h)).quotient (double.fractionBits + 2) (double.read 4611686018427387904)).map double.write) = _
    rw [h8, htwo]
    generalize hm : h.natAbs * 2 ^ (52 - L) = m at h9 h10
    have hlog : m.log2 = 52 := log2_is (by show 4503599627370496 ≤ m; omega) (by show m < 9007199254740992; omega)
    have hlog2 : Nat.log2 4503599627370496 = 52 := log2_is (by decide) (by decide)
    have hf : double.fractionBits = 52 := rfl
    simp only [Datum.quotient, hf, hlog, hlog2]
    rw [if_neg (by decide)]
    simp only [Option.map_some, Format.write]
    have e1 : m <<< (52 + 2 + 52 - 52) = 4503599627370496 * (4 * m) := by
      rw [Nat.shiftLeft_eq]
      rw [show 2 ^ (52 + 2 + 52 - 52) = 18014398509481984 by decide]
      omega
    rw [e1, Nat.mul_div_cancel_left _ (by decide), Nat.mul_mod_right]
    have e2 : 2 * (4 * m) + (((0 : Nat) != 0).toNat) = 8 * m := by simp; omega
    rw [e2, nearest_eight _ m (L + 1021) _ h9 h10 (by omega) (by omega)]
    rw [show (decide (h < 0) ^^ false) = decide (h < 0) by simp]
  have hh : halfBits h = double.word (h < 0) ((L + 1021) * 4503599627370496 + h.natAbs * 2 ^ (52 - L)) := by
    unfold halfBits; rw [hq]; rfl
  have e : (-1074 : Int) + ((L + 1021 : Nat) : Int) = (L : Int) - 53 := by omega
  rw [hh, read_word _ _ _ h9 h10 (by omega), e]

/-- Twice a half. -/
theorem twice_half (h : Int) (h0 : h ≠ 0) (h1 : -9007199254740992 < h) (h2 : h < 9007199254740992) : floatBits .mul .f64 4611686018427387904 (halfBits h) = some (floatOfInt .f64 h) := by
  obtain ⟨L, h5, h6, h7⟩ := bits_of h h0 h1 h2
  obtain ⟨_, h9, h10⟩ := read_int h L h5 h6 h7
  have htwo : double.read 4611686018427387904 = .number false 4503599627370496 (-51) := by decide
  have hr : double.read (halfBits h) = .number (h < 0) (h.natAbs * 2 ^ (52 - L)) (L - 53) := half_read h L h0 h1 h2 h5 h6 h7
  show (((double.read 4611686018427387904).product (double.read (halfBits h))).map double.write) = _
  rw [hr, htwo]
  simp only [Datum.product, Option.map_some, Format.write]
  rw [nearest_big _ _ (L + 1022) _ h9 h10 (by omega) (by omega), int_word h L h5 h6 h7]
  rw [show (false ^^ decide (h < 0)) = decide (h < 0) by simp]

theorem cut_exact (neg : Bool) (a d : Nat) (ha : 0 < a) : Toward.zero.cut neg (a * 2 ^ d) d = a := by
  unfold Toward.cut
  have hd : min d ((a * 2 ^ d).log2 + 2) = d := by
    refine Nat.min_eq_left ?_
    have : d ≤ (a * 2 ^ d).log2 := (Nat.le_log2 (by have := Nat.two_pow_pos d; exact Nat.pos_iff_ne_zero.1 (Nat.mul_pos ha this))).2 (Nat.le_mul_of_pos_left _ ha)
    omega
  rw [hd, Nat.one_shiftLeft]
  simp only [Nat.mul_div_cancel _ (Nat.two_pow_pos d)]
  simp
theorem integral_int (h : Int) (h0 : h ≠ 0) (h1 : -9007199254740992 < h) (h2 : h < 9007199254740992) : (double.read (floatOfInt .f64 h)).integral .zero = .number (h < 0) h.natAbs 0 := by
  obtain ⟨L, h5, h6, h7⟩ := bits_of h h0 h1 h2
  obtain ⟨h8, _, _⟩ := read_int h L h5 h6 h7
  rw [h8]
  simp only [Datum.integral]
  rw [show ((L : Int) - 52).toNat = 0 by omega, show (-((L : Int) - 52)).toNat = 52 - L by omega, Nat.shiftLeft_zero, cut_exact _ _ _ (by omega)]
/-- Cut to an integer it stays. -/
theorem trunc_int (h : Int) (h0 : h ≠ 0) (h1 : -9007199254740992 < h) (h2 : h < 9007199254740992) : double.write ((double.read (floatOfInt .f64 h)).integral .zero) = floatOfInt .f64 h := by
  rw [integral_int h h0 h1 h2]; rfl
/-- As an integer it is that integer. -/
theorem toInt_int (h : Int) (h0 : h ≠ 0) (h1 : -9007199254740992 < h) (h2 : h < 9007199254740992) : floatToIntVal .f64 (floatOfInt .f64 h) .i64 = some h := by
  unfold floatToIntVal
  have e : (FloatKind.f64.decode (floatOfInt .f64 h)).toInt .zero = some h := by
    show ((double.read (floatOfInt .f64 h)).toInt .zero) = some h
    unfold Datum.toInt
    rw [integral_int h h0 h1 h2]
    show some (signed (h < 0) h.natAbs 0) = some h
    unfold signed
    rw [Nat.shiftLeft_zero]
    congr 1
    by_cases hn : h < 0
    · simp [hn]; omega
    · simp [hn]; omega
  rw [e]
  have hmin : IntKind.i64.min = -9223372036854775808 := by decide
  have hmax : IntKind.i64.max = 9223372036854775807 := by decide
  show (if IntKind.i64.min ≤ h ∧ h ≤ IntKind.i64.max then some h else none) = some h
  rw [hmin, hmax, if_pos ⟨by omega, by omega⟩]
end Go.Proofs.YtmjegeipnaalnaaGreatDoor

/- A float that is half of an odd integer, as a value of the thin package: the walk. -/
namespace Go.Proofs.YtmjegeipnaalnaaGreatDoor
open Go.RowKit Ieee

theorem trunc_entry (b b' : Nat) (s : Bool) (m : Nat) (i : Int) (hd : double.read b = .number s m i) (hb' : double.write ((double.read b).integral .zero) = b') (w : World) :
    (callFunc 232 #[.float .f64 b]).run Tryz.prog w = .ok (.value (.float .f64 b')) w := by
  rw [run_callFunc_extern (fn := Tryz.f232) (e := Extern.MathFloor.toIntegral "math.archTrunc" .zero) Tryz.func232 (by kernel_rfl) (by kernel_rfl) (by kernel_rfl) (by kernel_rfl)]
  have h1 : FloatKind.f64.decode b = .number s m i := hd
  have h2 : FloatKind.f64.encode ((Datum.number s m i).integral .zero) = b' := by rw [← hd]; exact hb'
  have e : Extern.MathFloor.toIntegral "math.archTrunc" .zero #[.float .f64 b] = pure (.float .f64 b') := by
    show (match FloatKind.f64.decode b with
      | .nan s t => _
      | d => pure (Value.float .f64 (FloatKind.f64.encode (d.integral .zero)))) = _
    rw [h1]
    show pure (Value.float .f64 (FloatKind.f64.encode ((Datum.number s m i).integral .zero))) = _
    rw [h2]
  rw [e]
  rfl

theorem order_self {b : Nat} {s : Bool} {m : Nat} {i : Int} (hd : double.read b = .number s m i) : double.order b b = some .eq := by
  unfold Format.order
  rw [hd]
  simp [Datum.order]
/-- An integer's float against two to the sixty-second, both ways. -/
theorem order_far (h : Int) (h0 : h ≠ 0) (h1 : -9007199254740992 < h) (h2 : h < 9007199254740992) :
    double.order (floatOfInt .f64 h) 14109777632551763968 = some .gt ∧ double.order (floatOfInt .f64 h) 4886405595696988160 = some .lt := by
  obtain ⟨L, h5, h6, h7⟩ := bits_of h h0 h1 h2
  obtain ⟨h8, _, hlt⟩ := read_int h L h5 h6 h7
  generalize h.natAbs * 2 ^ (52 - L) = m at h8 hlt
  have r1 : double.read 14109777632551763968 = .number true 4503599627370496 10 := by decide
  have r2 : double.read 4886405595696988160 = .number false 4503599627370496 10 := by decide
  have hmin : min ((L : Int) - 52) 10 = (L : Int) - 52 := by omega
  have hbig : 9007199254740992 ≤ 4503599627370496 * 2 ^ (10 - ((L : Int) - 52)).toNat := by
    have : 2 ^ 1 ≤ 2 ^ (10 - ((L : Int) - 52)).toNat := Nat.pow_le_pow_right (by decide) (by omega)
    omega
  have hs : ∀ neg : Bool, -9007199254740992 < signed neg m 0 ∧ signed neg m 0 < 9007199254740992 := by
    intro neg
    unfold signed
    rw [Nat.shiftLeft_zero]
    cases neg
    · simp; omega
    · simp; omega
  unfold Format.order
  rw [h8, r1, r2]
  simp only [Datum.order, hmin]
  rw [show ((L : Int) - 52 - ((L : Int) - 52)).toNat = 0 by omega]
  have g := hs (decide (h < 0))
  have e1 : signed true 4503599627370496 (10 - ((L : Int) - 52)).toNat = -((4503599627370496 * 2 ^ (10 - ((L : Int) - 52)).toNat : Nat) : Int) := by unfold signed; rw [Nat.shiftLeft_eq]; rfl
  have e2 : signed false 4503599627370496 (10 - ((L : Int) - 52)).toNat = ((4503599627370496 * 2 ^ (10 - ((L : Int) - 52)).toNat : Nat) : Int) := by unfold signed; rw [Nat.shiftLeft_eq]; rfl
  rw [e1, e2]
  constructor
  · congr 1
    exact Int.compare_eq_gt.2 (by omega)
  · congr 1
    exact Int.compare_eq_lt.2 (by omega)
end Go.Proofs.YtmjegeipnaalnaaGreatDoor

/- A float that is half of an odd integer, as a value of the thin package: the walk. -/
namespace Go.Proofs.YtmjegeipnaalnaaGreatDoor
open Go.RowKit

/-- A number as a value. -/
def hV (h : Int) : Value := .agg #[.int .i64 3, .int .i64 h, .string ⟨#[]⟩, .slice none 0 0, .slice none 0 0, .slice none 0 0]

set_option maxRecDepth 100000 in
theorem Trunc_walk (h : Int) (h0 : h ≠ 0) (h1 : -9007199254740992 < h) (h2 : h < 9007199254740992) (w : World) :
    Calls Tryz.prog 195 #[.float .f64 (floatOfInt .f64 h)] w fun e w' => e = .returned (.float .f64 (floatOfInt .f64 h)) ∧ w' = w := by
  obtain ⟨L, h5, h6, h7⟩ := bits_of h h0 h1 h2
  have hx := fun W => trunc_entry (floatOfInt .f64 h) (floatOfInt .f64 h) _ _ _ (read_int h L h5 h6 h7).1 (trunc_int h h0 h1 h2) W
  generalize floatOfInt .f64 h = b at *
  clear h0 h1 h2 h5 h6 h7
  go_enter Tryz.func195, Tryz.ntmps195
  go_wp2_with fail
  go_ret
  exact ⟨rfl, rfl⟩

set_option maxRecDepth 100000 in
set_option maxHeartbeats 2000000 in
theorem half_walk (h : Int) (h0 : h ≠ 0) (h1 : -9007199254740992 < h) (h2 : h < 9007199254740992) (w : World) :
    Calls Tryz.prog 129 #[.float .f64 (floatOfInt .f64 h)] w fun e w' => e = .returned (.tuple #[hV h, .bool true]) ∧ Below w.heap.size w w' := by
  obtain ⟨L, h5, h6, h7⟩ := bits_of h h0 h1 h2
  have C := Lib.hid (fun W => Trunc_walk h h0 h1 h2 W)
  have ho := order_self (read_int h L h5 h6 h7).1
  obtain ⟨hg, hl⟩ := order_far h h0 h1 h2
  have hconv : ∀ W : World, (convert 79 3 (.float .f64 (floatOfInt .f64 h))).run Tryz.prog W = .ok (.int .i64 h) W := fun W => run_convert_float_int W 79 3 .f64 .i64 _ h (by kernel_rfl) (by kernel_rfl) (toInt_int h h0 h1 h2)
  have e1 : (FloatKind.f64.format.order (floatOfInt .f64 h) (floatOfInt .f64 h) != some Ordering.eq) = false := by rw [show FloatKind.f64.format.order (floatOfInt .f64 h) (floatOfInt .f64 h) = some .eq from ho]; rfl
  have e2 : (FloatKind.f64.format.order (floatOfInt .f64 h) 14109777632551763968 == some Ordering.lt || FloatKind.f64.format.order (floatOfInt .f64 h) 14109777632551763968 == some Ordering.eq) = false := by rw [show FloatKind.f64.format.order (floatOfInt .f64 h) 14109777632551763968 = some .gt from hg]; rfl
  have e3 : (FloatKind.f64.format.order (floatOfInt .f64 h) 4886405595696988160 == some Ordering.gt || FloatKind.f64.format.order (floatOfInt .f64 h) 4886405595696988160 == some Ordering.eq) = false := by rw [show FloatKind.f64.format.order (floatOfInt .f64 h) 4886405595696988160 = some .lt from hl]; rfl
  generalize floatOfInt .f64 h = b at *
  clear ho hg hl h5 h6 h7 h0 h1 h2
  have hX := heap_alloc_new w (.cells #[.int .i64 0, .int .i64 0, .string ⟨#[]⟩, .slice none 0 0, .slice none 0 0, .slice none 0 0] 26)
  have hB := (Below.refl w.heap.size w).alloc (Nat.le_refl _) (.cells #[.int .i64 0, .int .i64 0, .string ⟨#[]⟩, .slice none 0 0, .slice none 0 0, .slice none 0 0] 26)
  have hsz : w.heap.size < (w.alloc (.cells #[.int .i64 0, .int .i64 0, .string ⟨#[]⟩, .slice none 0 0, .slice none 0 0, .slice none 0 0] 26)).heap.size := by simp
  unfold hV
  go_enter Tryz.func129, Tryz.ntmps129
  go_upto_region 1 with (fail)
  generalize w.alloc (.cells #[.int .i64 0, .int .i64 0, .string ⟨#[]⟩, .slice none 0 0, .slice none 0 0, .slice none 0 0] 26) = w1 at *
  obtain ⟨x0, x1, x2, x3, x4, x5⟩ := box6 hX
  obtain ⟨f0, f1, f2, f3, f4, f5, _⟩ := frozen7 hX
  have HB := Lib.hid (below_set6 hB (Nat.le_refl _) (.int .i64 3) (.int .i64 h) (.string ⟨#[]⟩) (.slice none 0 0) (.slice none 0 0) (.slice none 0 0))
  clear hB
  go_wp2_with (go_at_call 195; refine (C.out _).mono ?_; rintro e w' ⟨rfl, hw'⟩; obtain rfl := hw'.symm)
  refine bodyPost_ret (v := .tuple #[.agg #[.int .i64 3, .int .i64 h, .string ⟨#[]⟩, .slice none 0 0, .slice none 0 0, .slice none 0 0], .bool true]) (by simp [results, Tryz.results129, go_sem, *]) rfl ⟨rfl, ?_⟩
  exact HB.out
end Go.Proofs.YtmjegeipnaalnaaGreatDoor
