/- A float that is half of an odd integer, as a value of the thin package: the walk. A float that is half of an odd integer, as a value of the thin package: the walk. -/
import Derived.Test.YtmjegeipnaalnaaGreatDoorSaFloB
import Derived.Test.YtmjegeipnaalnaaGreatDoorSaHoldsM
import Derived.Laws.Externs

/- A float that is half of an odd integer, as a value of the thin package: the walk. -/
namespace Go.Proofs.YtmjegeipnaalnaaGreatDoor
open Go.RowKit Ieee

theorem trunc_entry (b b' : Nat) (s : Bool) (m : Nat) (i : Int) (hd : double.read b = .number s m i) (hb' : double.write ((double.read b).integral .zero) = b') (w : World) :
    (callFunc 232 #[.float .f64 b]).run Tryz.prog w = .ok (.value (.float .f64 b')) w := by
  rw [run_callFunc_extern (fn := Tryz.f232) (e := Extern.MathFloor.toIntegral "math.archTrunc" .zero) Tryz.func232 (by kernel_rfl) (by kernel_rfl) (by kernel_rfl) (by kernel_rfl)]
  have h1 : FloatKind.f64.decode b = .number s m i := hd
  have h2 : FloatKind.f64.encode ((Datum.number s m i).integral .zero) = b' := by rw [← hd]; exact hb'
  have e : Extern.MathFloor.toIntegral "math.archTrunc" .zero #[.float .f64 b] = pure (.float .f64 b') := by
    show (match FloatKind.f64.decode b with
      | .nan s t => _
      | d => pure (Value.float .f64 (FloatKind.f64.encode (d.integral .zero)))) = _
    rw [h1]
    show pure (Value.float .f64 (FloatKind.f64.encode ((Datum.number s m i).integral .zero))) = _
    rw [h2]
  rw [e]
  rfl

theorem order_self {b : Nat} {s : Bool} {m : Nat} {i : Int} (hd : double.read b = .number s m i) : double.order b b = some .eq := by
  unfold Format.order
  rw [hd]
  simp [Datum.order]
/-- An integer's float against two to the sixty-second, both ways. -/
theorem order_far (h : Int) (h0 : h ≠ 0) (h1 : -9007199254740992 < h) (h2 : h < 9007199254740992) :
    double.order (floatOfInt .f64 h) 14109777632551763968 = some .gt ∧ double.order (floatOfInt .f64 h) 4886405595696988160 = some .lt := by
  obtain ⟨L, h5, h6, h7⟩ := bits_of h h0 h1 h2
  obtain ⟨h8, _, hlt⟩ := read_int h L h5 h6 h7
  generalize h.natAbs * 2 ^ (52 - L) = m at h8 hlt
  have r1 : double.read 14109777632551763968 = .number true 4503599627370496 10 := by decide
  have r2 : double.read 4886405595696988160 = .number false 4503599627370496 10 := by decide
  have hmin : min ((L : Int) - 52) 10 = (L : Int) - 52 := by omega
  have hbig : 9007199254740992 ≤ 4503599627370496 * 2 ^ (10 - ((L : Int) - 52)).toNat := by
    have : 2 ^ 1 ≤ 2 ^ (10 - ((L : Int) - 52)).toNat := Nat.pow_le_pow_right (by decide) (by omega)
    omega
  have hs : ∀ neg : Bool, -9007199254740992 < signed neg m 0 ∧ signed neg m 0 < 9007199254740992 := by
    intro neg
    unfold signed
    rw [Nat.shiftLeft_zero]
    cases neg
    · simp; omega
    · simp; omega
  unfold Format.order
  rw [h8, r1, r2]
  simp only [Datum.order, hmin]
  rw [show ((L : Int) - 52 - ((L : Int) - 52)).toNat = 0 by omega]
  have g := hs (decide (h < 0))
  have e1 : signed true 4503599627370496 (10 - ((L : Int) - 52)).toNat = -((4503599627370496 * 2 ^ (10 - ((L : Int) - 52)).toNat : Nat) : Int) := by unfold signed; rw [Nat.shiftLeft_eq]; rfl
  have e2 : signed false 4503599627370496 (10 - ((L : Int) - 52)).toNat = ((4503599627370496 * 2 ^ (10 - ((L : Int) - 52)).toNat : Nat) : Int) := by unfold signed; rw [Nat.shiftLeft_eq]; rfl
  rw [e1, e2]
  constructor
  · congr 1
    exact Int.compare_eq_gt.2 (by omega)
  · congr 1
    exact Int.compare_eq_lt.2 (by omega)
end Go.Proofs.YtmjegeipnaalnaaGreatDoor

/- A float that is half of an odd integer, as a value of the thin package: the walk. -/
namespace Go.Proofs.YtmjegeipnaalnaaGreatDoor
open Go.RowKit

/-- A number as a value. -/
def hV (h : Int) : Value := .agg #[.int .i64 3, .int .i64 h, .string ⟨#[]⟩, .slice none 0 0, .slice none 0 0, .slice none 0 0]

set_option maxRecDepth 100000 in
theorem Trunc_walk (h : Int) (h0 : h ≠ 0) (h1 : -9007199254740992 < h) (h2 : h < 9007199254740992) (w : World) :
    Calls Tryz.prog 195 #[.float .f64 (floatOfInt .f64 h)] w fun e w' => e = .returned (.float .f64 (floatOfInt .f64 h)) ∧ w' = w := by
  obtain ⟨L, h5, h6, h7⟩ := bits_of h h0 h1 h2
  have hx := fun W => trunc_entry (floatOfInt .f64 h) (floatOfInt .f64 h) _ _ _ (read_int h L h5 h6 h7).1 (trunc_int h h0 h1 h2) W
  generalize floatOfInt .f64 h = b at *
  clear h0 h1 h2 h5 h6 h7
  go_enter Tryz.func195, Tryz.ntmps195
  go_wp2_with fail
  go_ret
  exact ⟨rfl, rfl⟩

set_option maxRecDepth 100000 in
set_option maxHeartbeats 2000000 in
theorem half_walk (h : Int) (h0 : h ≠ 0) (h1 : -9007199254740992 < h) (h2 : h < 9007199254740992) (w : World) :
    Calls Tryz.prog 129 #[.float .f64 (floatOfInt .f64 h)] w fun e w' => e = .returned (.tuple #[hV h, .bool true]) ∧ Below w.heap.size w w' := by
  obtain ⟨L, h5, h6, h7⟩ := bits_of h h0 h1 h2
  have C := Lib.hid (fun W => Trunc_walk h h0 h1 h2 W)
  have ho := order_self (read_int h L h5 h6 h7).1
  obtain ⟨hg, hl⟩ := order_far h h0 h1 h2
  have hconv : ∀ W : World, (convert 79 3 (.float .f64 (floatOfInt .f64 h))).run Tryz.prog W = .ok (.int .i64 h) W := fun W => run_convert_float_int W 79 3 .f64 .i64 _ h (by kernel_rfl) (by kernel_rfl) (toInt_int h h0 h1 h2)
  have e1 : (FloatKind.f64.format.order (floatOfInt .f64 h) (floatOfInt .f64 h) != some Ordering.eq) = false := by rw [show FloatKind.f64.format.order (floatOfInt .f64 h) (floatOfInt .f64 h) = some .eq from ho]; rfl
  have e2 : (FloatKind.f64.format.order (floatOfInt .f64 h) 14109777632551763968 == some Ordering.lt || FloatKind.f64.format.order (floatOfInt .f64 h) 14109777632551763968 == some Ordering.eq) = false := by rw [show FloatKind.f64.format.order (floatOfInt .f64 h) 14109777632551763968 = some .gt from hg]; rfl
  have e3 : (FloatKind.f64.format.order (floatOfInt .f64 h) 4886405595696988160 == some Ordering.gt || FloatKind.f64.format.order (floatOfInt .f64 h) 4886405595696988160 == some Ordering.eq) = false := by rw [show FloatKind.f64.format.order (floatOfInt .f64 h) 4886405595696988160 = some .lt from hl]; rfl
  generalize floatOfInt .f64 h = b at *
  clear ho hg hl h5 h6 h7 h0 h1 h2
  have hX := heap_alloc_new w (.cells #[.int .i64 0, .int .i64 0, .string ⟨#[]⟩, .slice none 0 0, .slice none 0 0, .slice none 0 0] 26)
  have hB := (Below.refl w.heap.size w).alloc (Nat.le_refl _) (.cells #[.int .i64 0, .int .i64 0, .string ⟨#[]⟩, .slice none 0 0, .slice none 0 0, .slice none 0 0] 26)
  have hsz : w.heap.size < (w.alloc (.cells #[.int .i64 0, .int .i64 0, .string ⟨#[]⟩, .slice none 0 0, .slice none 0 0, .slice none 0 0] 26)).heap.size := by simp
  unfold hV
  go_enter Tryz.func129, Tryz.ntmps129
  go_upto_region 1 with (fail)
  generalize w.alloc (.cells #[.int .i64 0, .int .i64 0, .string ⟨#[]⟩, .slice none 0 0, .slice none 0 0, .slice none 0 0] 26) = w1 at *
  obtain ⟨x0, x1, x2, x3, x4, x5⟩ := box6 hX
  obtain ⟨f0, f1, f2, f3, f4, f5, _⟩ := frozen7 hX
  have HB := Lib.hid (below_set6 hB (Nat.le_refl _) (.int .i64 3) (.int .i64 h) (.string ⟨#[]⟩) (.slice none 0 0) (.slice none 0 0) (.slice none 0 0))
  clear hB
  go_wp2_with (go_at_call 195; refine (C.out _).mono ?_; rintro e w' ⟨rfl, hw'⟩; obtain rfl := hw'.symm)
  refine bodyPost_ret (v := .tuple #[.agg #[.int .i64 3, .int .i64 h, .string ⟨#[]⟩, .slice none 0 0, .slice none 0 0, .slice none 0 0], .bool true]) (by simp [results, Tryz.results129, go_sem, *]) rfl ⟨rfl, ?_⟩
  exact HB.out
end Go.Proofs.YtmjegeipnaalnaaGreatDoor
