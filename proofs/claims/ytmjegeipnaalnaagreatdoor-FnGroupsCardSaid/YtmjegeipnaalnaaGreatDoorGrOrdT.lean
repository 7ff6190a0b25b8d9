/- The package's order of values, as a function of two trees. The package's order: its functions for pairs of integers, texts, floats, and for all that is left. The keys of a Go map that stands for a tree, as the package gives them: the walks. The package's order over lists. -/
import Derived.Test.YtmjegeipnaalnaaGreatDoorGrMapW
import Derived.Test.YtmjegeipnaalnaaGreatDoorGrSameN
import Derived.Test.YtmjegeipnaalnaaGreatDoorGrSwC
import Derived.Test.YtmjegeipnaalnaaGreatDoorGrConL
import Derived.Test.YtmjegeipnaalnaaGreatDoorGrFloB
import Derived.Test.YtmjegeipnaalnaaGreatDoorGrKeys0
import Derived.Test.YtmjegeipnaalnaaGreatDoorGrMapP
import Derived.Test.YtmjegeipnaalnaaGreatDoorGrSameT

/- The package's order of values, as a function of two trees. -/
namespace Go.Proofs.YtmjegeipnaalnaaGreatDoor

/-- The order of two texts. -/
def ordB (a b : ByteArray) : Int := if keyLt a b then -1 else if a.toList == b.toList then 0 else 1
/-- The order of two lists of texts. -/
def ordK : List ByteArray → List ByteArray → Int
  | [], [] => 0
  | [], _ :: _ => -1
  | _ :: _, [] => 1
  | x :: r, y :: s => if ordB x y = 0 then ordK r s else ordB x y
mutual
/-- The order of two values. -/
def ordT : JV → JV → Int
  | .mk k h t l ks vs, .mk k' h' t' l' ks' vs' =>
    if k ≠ k' ∨ k ≤ 2 then sgn (k - k')
    else if k = 3 then sgn (h - h')
    else if k = 4 then ordB t t'
    else if k = 5 then ordL l l'
    else if ordK ks ks' = 0 then ordL vs vs' else ordK ks ks'
/-- The order of two lists. -/
def ordL : List JV → List JV → Int
  | [], [] => 0
  | [], _ :: _ => -1
  | _ :: _, [] => 1
  | x :: r, y :: s => if ordT x y = 0 then ordL r s else ordT x y
end

theorem ordB_eq {a b : ByteArray} (h : ordB a b = 0) : a = b := by
  unfold ordB at h
  split at h
  · cases h
  · split at h
    · rename_i e
      exact ba_ext (beq_iff_eq.1 e)
    · cases h
theorem ordK_eq : ∀ {a b : List ByteArray}, ordK a b = 0 → a = b
  | [], [], _ => rfl
  | [], _ :: _, h => by unfold ordK at h; cases h
  | _ :: _, [], h => by unfold ordK at h; cases h
  | x :: r, y :: s, h => by
    unfold ordK at h
    split at h
    · rename_i e
      rw [ordB_eq e, ordK_eq h]
    · rename_i e
      exact absurd h e
/-- A text as a value. -/
def textT (k : ByteArray) : JV := .mk 4 0 k [] [] []
theorem ordT_text (a b : ByteArray) : ordT (textT a) (textT b) = ordB a b := by
  unfold textT ordT
  rw [if_neg (by omega), if_neg (by omega), if_pos rfl]
theorem ordL_texts : ∀ a b : List ByteArray, ordL (a.map textT) (b.map textT) = ordK a b
  | [], [] => by simp [ordL, ordK]
  | [], _ :: _ => by simp [ordL, ordK]
  | _ :: _, [] => by simp [ordL, ordK]
  | x :: r, y :: s => by
    rw [List.map_cons, List.map_cons]
    unfold ordL ordK
    rw [ordT_text, ordL_texts r s]

theorem ordL_step {l l' : List JV} {j : Nat} (h : j < l.length) (h' : j < l'.length) : ordL (l.drop j) (l'.drop j) = if ordT l[j] l'[j] = 0 then ordL (l.drop (j + 1)) (l'.drop (j + 1)) else ordT l[j] l'[j] := by
  rw [List.drop_eq_getElem_cons h, List.drop_eq_getElem_cons h']
  conv => lhs; unfold ordL
theorem ordL_end {l l' : List JV} {j : Nat} (h : j = l.length ∨ j = l'.length) (h1 : j ≤ l.length) (h2 : j ≤ l'.length) : ordL (l.drop j) (l'.drop j) = sgn ((l.length : Int) - l'.length) := by
  rcases Nat.lt_or_ge l.length l'.length with hlt | hge
  · have e : j = l.length := by omega
    have e1 : l.drop j = [] := List.drop_eq_nil_of_le (by omega)
    rw [e1, List.drop_eq_getElem_cons (show j < l'.length by omega)]
    unfold ordL sgn
    rw [if_pos (by omega)]
  · have e2 : l'.drop j = [] := List.drop_eq_nil_of_le (by omega)
    rw [e2]
    rcases Nat.lt_or_ge j l.length with hlt2 | hge2
    · rw [List.drop_eq_getElem_cons hlt2]
      unfold ordL sgn
      rw [if_neg (by omega), if_pos (by omega)]
    · rw [List.drop_eq_nil_of_le hge2]
      unfold ordL sgn
      rw [if_neg (by omega), if_neg (by omega)]

theorem ordT_ne {k h k' h' : Int} {t t' : ByteArray} {l l' vs vs' : List JV} {ks ks' : List ByteArray} (hk : k ≠ k' ∨ k ≤ 2) : ordT (.mk k h t l ks vs) (.mk k' h' t' l' ks' vs') = sgn (k - k') := by
  unfold ordT; rw [if_pos hk]
theorem ordT_num {h h' : Int} {t t' : ByteArray} {l l' vs vs' : List JV} {ks ks' : List ByteArray} : ordT (.mk 3 h t l ks vs) (.mk 3 h' t' l' ks' vs') = sgn (h - h') := by
  unfold ordT; rw [if_neg (by omega), if_pos rfl]
theorem ordT_str {h h' : Int} {t t' : ByteArray} {l l' vs vs' : List JV} {ks ks' : List ByteArray} : ordT (.mk 4 h t l ks vs) (.mk 4 h' t' l' ks' vs') = ordB t t' := by
  unfold ordT; rw [if_neg (by omega), if_neg (by omega), if_pos rfl]
theorem ordT_list {h h' : Int} {t t' : ByteArray} {l l' vs vs' : List JV} {ks ks' : List ByteArray} : ordT (.mk 5 h t l ks vs) (.mk 5 h' t' l' ks' vs') = ordL l l' := by
  unfold ordT; rw [if_neg (by omega), if_neg (by omega), if_neg (by omega), if_pos rfl]
theorem ordT_map {h h' : Int} {t t' : ByteArray} {l l' vs vs' : List JV} {ks ks' : List ByteArray} : ordT (.mk 6 h t l ks vs) (.mk 6 h' t' l' ks' vs') = if ordK ks ks' = 0 then ordL vs vs' else ordK ks ks' := by
  conv => lhs; unfold ordT
  rw [if_neg (by omega), if_neg (by omega), if_neg (by omega), if_neg (by omega)]

/-- The same test on halves of integers as Go's floats: less. -/
theorem sgn_neg {n : Int} (h : n < 0) : sgn n = -1 := by unfold sgn; rw [if_pos h]
theorem sgn_pos {n : Int} (h : 0 < n) : sgn n = 1 := by unfold sgn; rw [if_neg (by omega), if_pos h]
theorem sgn_z0 : sgn 0 = 0 := rfl
end Go.Proofs.YtmjegeipnaalnaaGreatDoor

/- The package's order: its functions for pairs of integers, texts, floats, and for all that is left. -/
namespace Go.Proofs.YtmjegeipnaalnaaGreatDoor
open Go.RowKit

theorem isNaN_int (x : Int) (w : World) : Calls Tryz.prog 252 #[.int .i64 x] w fun e w' => e = .returned (.bool false) ∧ w' = w := by
  have h : (x != x) = false := by simp
  go_enter Tryz.func252, Tryz.ntmps252
  go_wp2_with fail
  go_ret
  exact ⟨rfl, rfl⟩
theorem isNaN_str (x : ByteArray) (w : World) : Calls Tryz.prog 253 #[.string x] w fun e w' => e = .returned (.bool false) ∧ w' = w := by
  have h : (x.toList == x.toList) = true := by simp
  go_enter Tryz.func253, Tryz.ntmps253
  go_wp2_with fail
  go_ret
  exact ⟨rfl, rfl⟩

theorem ord_int (x y : Int) (w : World) : Calls Tryz.prog 206 #[.int .i64 x, .int .i64 y] w fun e w' => e = .returned (.int .i64 (sgn (x - y))) ∧ w' = w := by
  have C := Lib.hid (fun z W => isNaN_int z W)
  rcases Int.lt_trichotomy x y with h | h | h
  · rw [sgn_neg (n := x - y) (by omega)]
    go_enter Tryz.func206, Tryz.ntmps206
    go_wp2_with (go_at_call 252; refine (C.out _ _).mono ?_; rintro e w' ⟨rfl, rfl⟩)
    go_ret
    exact ⟨rfl, rfl⟩
  · subst h
    rw [show x - x = 0 by omega, sgn_z0]
    have h1 : decide (x < x) = false := by simp
    go_enter Tryz.func206, Tryz.ntmps206
    go_wp2_with (go_at_call 252; refine (C.out _ _).mono ?_; rintro e w' ⟨rfl, rfl⟩)
    go_ret
    exact ⟨rfl, rfl⟩
  · rw [sgn_pos (n := x - y) (by omega)]
    have h1 : decide (x < y) = false := by simp; omega
    have h2 : decide (y < x) = true := by simpa using h
    go_enter Tryz.func206, Tryz.ntmps206
    go_wp2_with (go_at_call 252; refine (C.out _ _).mono ?_; rintro e w' ⟨rfl, rfl⟩)
    go_ret
    exact ⟨rfl, rfl⟩

theorem ord_str (a b : ByteArray) (w : World) : Calls Tryz.prog 209 #[.string a, .string b] w fun e w' => ∃ v, e = .returned v ∧ v = .int .i64 (ordB a b) ∧ w' = w := by
  have C := Lib.hid (fun z W => isNaN_str z W)
  unfold ordB
  rcases tri a b with rfl | ⟨h1, h2, h3, h4, _⟩ | ⟨h1, h2, h3, h4, _⟩
  · have h1 : keyLt a a = false := bl_irrefl _
    rw [h1]
    have h2 : Op.bytesLess a.toList a.toList = false := h1
    have h3 : (a.toList == a.toList) = true := by simp
    rw [h3]
    clear h1
    simp only [Bool.false_eq_true, if_false, if_true]
    go_enter Tryz.func209, Tryz.ntmps209
    go_wp2_with (go_at_call 253; refine (C.out _ _).mono ?_; rintro e w' ⟨rfl, rfl⟩)
    go_ret
    exact ⟨_, rfl, rfl, rfl⟩
  · rw [h1]
    have g1 : Op.bytesLess a.toList b.toList = true := h1
    clear h1 h2
    simp only [if_true]
    go_enter Tryz.func209, Tryz.ntmps209
    go_wp2_with (go_at_call 253; refine (C.out _ _).mono ?_; rintro e w' ⟨rfl, rfl⟩)
    go_ret
    exact ⟨_, rfl, rfl, rfl⟩
  · rw [h2, h3]
    have g1 : Op.bytesLess a.toList b.toList = false := h2
    have g2 : Op.bytesLess b.toList a.toList = true := h1
    clear h1 h2
    simp only [Bool.false_eq_true, if_false]
    go_enter Tryz.func209, Tryz.ntmps209
    go_wp2_with (go_at_call 253; refine (C.out _ _).mono ?_; rintro e w' ⟨rfl, rfl⟩)
    go_ret
    exact ⟨_, rfl, rfl, rfl⟩

section
open Ieee
theorem order_half_lt {a b : Nat} {p q i j : Int} (ha : FHalf a p i) (hb : FHalf b q j) (h : min i j ≤ -1) : (double.order a b == some .lt) = decide (p < q) := by
  obtain ⟨s, m, h1, h2⟩ := ha
  obtain ⟨t, n, h3, h4⟩ := hb
  unfold Format.order
  rw [h1, h3]
  simp only [Datum.order]
  rw [h2 (min i j) (Int.min_le_left ..) h, h4 (min i j) (Int.min_le_right ..) h]
  have hpos : (0 : Int) < (2 ^ (-1 - min i j).toNat : Nat) := by exact_mod_cast Nat.two_pow_pos _
  generalize ((2 ^ (-1 - min i j).toNat : Nat) : Int) = d at hpos
  by_cases e : p < q
  · have h5 : p * d < q * d := Int.mul_lt_mul_of_pos_right e hpos
    have h6 : compare (p * d) (q * d) = .lt := Int.compare_eq_lt.2 h5
    rw [h6]
    simp [e]
  · have h5 : ¬ p * d < q * d := fun h7 => e (Int.lt_of_mul_lt_mul_right h7 (by omega))
    have h6 : compare (p * d) (q * d) ≠ .lt := fun h7 => h5 (Int.compare_eq_lt.1 h7)
    cases hd : compare (p * d) (q * d) with
    | lt => exact absurd hd h6
    | eq => simp [e]
    | gt => simp [e]
theorem self_half {a : Nat} {p i : Int} (ha : FHalf a p i) : double.order a a = some .eq := by
  obtain ⟨s, m, h1, _⟩ := ha
  exact order_self h1
end

theorem isNaN_flo (x : Nat) (h : (Ieee.double.order x x != some .eq) = false) (w : World) : Calls Tryz.prog 169 #[.float .f64 x] w fun e w' => e = .returned (.bool false) ∧ w' = w := by
  have h2 : (FloatKind.f64.format.order x x != some .eq) = false := h
  clear h
  go_enter Tryz.func169, Tryz.ntmps169
  go_wp2_with fail
  go_ret
  exact ⟨rfl, rfl⟩
theorem lt_flo (x y : Nat) (z : Bool) (hz : (Ieee.double.order x y == some .lt) = z) (h : (Ieee.double.order x x != some .eq) = false) (w : World) : Calls Tryz.prog 208 #[.float .f64 x, .float .f64 y] w fun e w' => e = .returned (.bool z) ∧ w' = w := by
  have C := Lib.hid (fun W => isNaN_flo x h W)
  have h2 : (FloatKind.f64.format.order x y == some .lt) = z := hz
  clear h hz
  cases z
  · go_enter Tryz.func208, Tryz.ntmps208
    go_wp2_with (go_at_call 169; refine (C.out _).mono ?_; rintro e w' ⟨rfl, rfl⟩)
    go_ret
    exact ⟨rfl, rfl⟩
  · go_enter Tryz.func208, Tryz.ntmps208
    go_wp2_with fail
    go_ret
    exact ⟨rfl, rfl⟩
theorem ord_flo (x y : Nat) (p q : Int) (hlt : (Ieee.double.order x y == some .lt) = decide (p < q)) (heq : (Ieee.double.order x y == some .eq) = (p == q)) (hs : Ieee.double.order x x = some .eq) (w : World) :
    Calls Tryz.prog 207 #[.float .f64 x, .float .f64 y] w fun e w' => ∃ v, e = .returned v ∧ v = .int .i64 (sgn (p - q)) ∧ w' = w := by
  have hs2 : (Ieee.double.order x x != some .eq) = false := by rw [hs]; rfl
  rcases Int.lt_trichotomy p q with h | h | h
  · rw [sgn_neg (n := p - q) (by omega)]
    have C := Lib.hid (fun W => lt_flo x y true (by rw [hlt]; simpa using h) hs2 W)
    clear hlt heq hs hs2
    go_enter Tryz.func207, Tryz.ntmps207
    go_wp2_with (go_at_call 208; refine (C.out _).mono ?_; rintro e w' ⟨rfl, rfl⟩)
    go_ret
    exact ⟨_, rfl, rfl, rfl⟩
  · rw [show p - q = 0 by omega, sgn_z0]
    have C := Lib.hid (fun W => lt_flo x y false (by rw [hlt]; simp; omega) hs2 W)
    have h2 : (FloatKind.f64.format.order x y == some .eq) = true := by
      have : (Ieee.double.order x y == some .eq) = true := by rw [heq]; simpa using h
      exact this
    clear hlt heq hs hs2
    go_enter Tryz.func207, Tryz.ntmps207
    go_wp2_with (go_at_call 208; refine (C.out _).mono ?_; rintro e w' ⟨rfl, rfl⟩)
    go_ret
    exact ⟨_, rfl, rfl, rfl⟩
  · rw [sgn_pos (n := p - q) (by omega)]
    have C := Lib.hid (fun W => lt_flo x y false (by rw [hlt]; simp; omega) hs2 W)
    have h2 : (FloatKind.f64.format.order x y == some .eq) = false := by
      have : (Ieee.double.order x y == some .eq) = false := by rw [heq]; simp; omega
      exact this
    clear hlt heq hs hs2
    go_enter Tryz.func207, Tryz.ntmps207
    go_wp2_with (go_at_call 208; refine (C.out _).mono ?_; rintro e w' ⟨rfl, rfl⟩)
    go_ret
    exact ⟨_, rfl, rfl, rfl⟩

/-- The shapes of values that stand for values of JSON, each with its kind. -/
inductive Kd : Value → Int → Prop
  | nil : Kd .nilIface 0
  | fls : Kd (.iface 4 (.bool false)) 1
  | tru : Kd (.iface 4 (.bool true)) 2
  | int (n : Int) : Kd (.iface 3 (.int .i64 n)) 3
  | flo (n : Nat) : Kd (.iface 79 (.float .f64 n)) 3
  | str (s : ByteArray) : Kd (.iface 9 (.string s)) 4
  | lst (v : Value) : Kd (.iface 80 v) 5
  | mp (v : Value) : Kd (.iface 83 v) 6
theorem GRep.kd {w : World} {lo B : Nat} {v : JV} {x : Value} (h : GRep w lo B v x) : Kd x v.kind := by
  obtain ⟨k, hh, t, l, ks, vs⟩ := v
  unfold GRep at h
  simp only [JV.kind]
  rcases h with ⟨rfl, rfl⟩ | ⟨rfl, rfl⟩ | ⟨rfl, rfl⟩ | ⟨rfl, _, _, _, _, rfl⟩ | ⟨rfl, _, _, _, rfl⟩ | ⟨rfl, _, rfl⟩ | ⟨rfl, _, _, _, _, _, rfl, _⟩ | ⟨rfl, _, _, _, _, rfl, _⟩
  · exact .nil
  · exact .fls
  · exact .tru
  · exact .int _
  · exact .flo _
  · exact .str _
  · exact .lst _
  · exact .mp _
set_option maxRecDepth 100000 in
set_option maxHeartbeats 2000000 in
theorem idx_walk {x : Value} {k : Int} (h : Kd x k) (w : World) : Calls Tryz.prog 214 #[x] w fun e w' => e = .returned (.int .i64 k) ∧ w' = w := by
  cases h
  all_goals
    go_enter Tryz.func214, Tryz.ntmps214
    go_wp2_with fail
    go_ret
    exact ⟨rfl, rfl⟩
theorem ord_fall {l r : Value} {i j : Int} (hl : Kd l i) (hr : Kd r j) (w : World) : Calls Tryz.prog 213 #[l, r] w fun e w' => ∃ v, e = .returned v ∧ v = .int .i64 (sgn (i - j)) ∧ w' = w := by
  have H1 := Lib.hid (fun W => idx_walk hl W)
  have H2 := Lib.hid (fun W => idx_walk hr W)
  have H3 := Lib.hid (fun W => ord_int i j W)
  clear hl hr
  go_enter Tryz.func213, Tryz.ntmps213
  go_wp2_with fail
  refine (H1.out _).mono ?_
  rintro e w1 ⟨rfl, rfl⟩
  go_wp2_with fail
  refine (H2.out _).mono ?_
  rintro e w2 ⟨rfl, rfl⟩
  go_wp2_with fail
  refine (H3.out _).mono ?_
  rintro e w3 ⟨rfl, rfl⟩
  go_wp2_with fail
  go_ret
  exact ⟨_, rfl, rfl, rfl⟩
end Go.Proofs.YtmjegeipnaalnaaGreatDoor

/- The keys of a Go map that stands for a tree, as the package gives them: the walks. -/
namespace Go.Proofs.YtmjegeipnaalnaaGreatDoor
open Go.RowKit

theorem make_str (n : Nat) (hn : n ≤ 9000000000000) (w : World) :
    (Instr.makeSlice 24 (.int .i64 n) (.int .i64 n)).run Tryz.prog w = .ok (.slice (some ⟨w.heap.size, 0, none⟩) n n) (w.alloc (.cells (Array.replicate n (Value.string ⟨#[]⟩)) 9)) := by
  obtain ⟨i, hi, hz, hs, hb⟩ : ∃ i, Tryz.prog.info? 9 = some i ∧ i.zero = some (.string ⟨#[]⟩) ∧ i.size = 1 ∧ i.bytes = 16 := ⟨Tryz.t9, by kernel_rfl, by kernel_rfl, by kernel_rfl, by kernel_rfl⟩
  have h := run_make (P := Tryz.prog) w 24 9 i (.string ⟨#[]⟩) (by kernel_rfl) hi hz .i64 .i64 n n (by omega) (by omega) (by rw [hb]; omega) (by omega)
  have e : madeCells (Value.string ⟨#[]⟩).cells (((n : Int).toNat) * i.size) = Array.replicate n (Value.string ⟨#[]⟩) := by
    rw [hs]
    apply Array.ext
    · simp [madeCells]
    · intro k h1 h2
      simp [madeCells, Value.cells, Nat.mod_one]
  rw [h, e, Int.toNat_natCast]

theorem nth_zero {cs : List Value} {n j : Nat} {z : Value} (hl : cs.length = j) (hj : j < n) : (cs ++ List.replicate (n - j) z)[j]? = some z := by
  subst hl
  rw [List.getElem?_append_right (Nat.le_refl _)]
  simp [List.getElem?_replicate]
  omega

section
open Go.Sort Go.Maps
theorem below_growN {B : Nat} {a w : World} (h : Below B a w) (hB : B ≤ w.heap.size) (os : Array Obj) : Below B a (Sort.grow w os) :=
  ⟨h.os, h.tape, h.output, Nat.le_trans h.size (by rw [size_grow]; omega), fun k hk => (heap_grow_old w os (by omega)).trans (h.block k hk)⟩
theorem below_putR {α : Type} [Inhabited α] {enc : α → Value} {B g q : Nat} {w0 w : World} {d : Array α} (h : Below B w0 w) (hg : B ≤ g) : Below B w0 (putRow enc (Sort.ahead w q) g 0 d) :=
  ⟨h.os, h.tape, h.output, Nat.le_trans h.size (by rw [size_putRow]; exact Nat.le_refl _), fun k hk => by
    show ((Sort.ahead w q).heap.modify g _)[k]? = _
    rw [Array.getElem?_modify, if_neg (by omega)]
    exact h.block k hk⟩

/-- sort.Strings: the row's cells hold the texts, sorted. -/
theorem strings_walk (g n cap : Nat) (ss : List (List UInt8)) (hn : ss.length = n) (W : World) (hH : Holds encStr W g 0 ss.toArray) (hblk : g < W.heap.size) (hsz : n < 4611686018427387904) :
    Calls Tryz.prog 307 #[.slice (some ⟨g, 0, none⟩) n cap] W fun e w' => e = .returned (.tuple #[]) ∧ (∀ j (h : j < (ss.mergeSort fun x y => decide (x ≤ y)).length), w'.cell? ⟨g, j, none⟩ = some (encStr (ss.mergeSort fun x y => decide (x ≤ y))[j])) ∧ Below g W w' := by
  subst hn
  have c := AnyM.slices_Sort_string Tryz.sort235 g 0 cap ss W hH hblk hsz
  change Calls Tryz.prog 235 _ _ _ at c
  have C := Lib.hid c
  have HH := Lib.hid hH
  clear c hH
  go_enter Tryz.func307, Tryz.ntmps307
  go_wp2_with fail
  refine C.out.mono ?_
  rintro e w1 ⟨rfl, q, os, rfl⟩
  go_wp2_with fail
  go_end0
  refine ⟨rfl, fun j h => ?_, below_growN (below_putR (Below.refl _ _) (Nat.le_refl _)) (by rw [size_putRow]; exact Nat.le_of_lt hblk) _⟩
  rw [cell?_grow _ _ _ (by rw [size_putRow]; exact hblk)]
  have := cell?_putRow encStr (Sort.ahead W q) g 0 ss.toArray (ss.mergeSort fun x y => decide (x ≤ y)).toArray HH.out (by simp) j (by simpa using h)
  rw [Nat.zero_add] at this
  rw [this]
  congr 2
  simp
  rw [List.getElem?_eq_getElem h]
  rfl
theorem sorted_keys {ks : List ByteArray} (hr : Rising none ks) {ss : List (List UInt8)} (hp : ss.Perm (ks.map fun k => k.data.toList)) : ss.mergeSort (fun x y => decide (x ≤ y)) = ks.map fun k => k.data.toList := by
  have hsort := rising_sorted hr
  have tr : ∀ a b c : List UInt8, leB a b = true → leB b c = true → leB a c = true := fun a b c h1 h2 => by simp only [leB, decide_eq_true_eq] at *; exact List.le_trans h1 h2
  have tot : ∀ a b : List UInt8, (leB a b || leB b a) = true := fun a b => by simp only [leB, Bool.or_eq_true, decide_eq_true_eq]; exact List.le_total a b
  refine List.Perm.eq_of_pairwise (le := fun a b => leB a b = true) (fun a b _ _ h1 h2 => ?_) (List.pairwise_mergeSort tr tot ss) (hsort.imp fun h => by simp only [leB, decide_eq_true_eq]; exact List.le_of_lt h) ((List.mergeSort_perm ss leB).trans hp)
  simp only [leB, decide_eq_true_eq] at h1 h2
  exact List.le_antisymm h1 h2
end

/-- The bytes of a text. -/
def bytesOf : Value → List UInt8 | .string s => s.data.toList | _ => []

open Go.Sort in
set_option maxRecDepth 100000 in
set_option maxHeartbeats 8000000 in
/-- keys: the keys of a map, sorted. -/
theorem keys_walk (b n : Nat) (ks : List ByteArray) (es : List MapEntry) (w : World) (hb : b < w.heap.size) (hc : w.heap[b]? = some (.map (List.toArray es) n)) (hn : es.length = n) (hk : es.map (·.key) = ks.map Value.string) (ho : es.map (·.born) = List.range es.length) (hr : Rising none ks) (hm : n ≤ 9000000000000) :
    Calls Tryz.prog 254 #[.map (some b)] w fun e w' => e = .returned (.slice (some ⟨w.heap.size, 0, none⟩) n n) ∧ (∀ j (h : j < ks.length), w'.cell? ⟨w.heap.size, j, none⟩ = some (.string ks[j])) ∧ Below w.heap.size w w' ∧ w.heap.size < w'.heap.size := by
  have hlk : ks.length = n := by have := congrArg List.length hk; simp at this; omega
  have hst := born_stamp ho
  have hmk := make_str n hm w
  have hN := heap_alloc_new w (.cells (Array.replicate n (Value.string ⟨#[]⟩)) 9)
  have hB := (Below.refl w.heap.size w).alloc (Nat.le_refl _) (.cells (Array.replicate n (Value.string ⟨#[]⟩)) 9)
  have hb1 : (w.alloc (.cells (Array.replicate n (Value.string ⟨#[]⟩)) 9)).heap[b]? = some (.map (List.toArray es) n) := kept_below hB hb hc
  have hszA : (w.alloc (.cells (Array.replicate n (Value.string ⟨#[]⟩)) 9)).heap.size = w.heap.size + 1 := by simp
  have hlen : ∀ ty, (Builtin.len_ #[83] ty #[.map (some b)]).run Tryz.prog w = .ok (goInt n) w := fun ty => by rw [run_len_map w 83 ty b _ _ (by kernel_rfl) hc]; simp [hn]
  have HN := Lib.hid hn
  have HK := Lib.hid hk
  have HST := Lib.hid hst
  have HLK := Lib.hid hlk
  clear hn hk ho hst hlk hc
  go_enter Tryz.func254, Tryz.ntmps254
  go_upto_region 2 with (fail)
  generalize w.alloc (.cells (Array.replicate n (Value.string ⟨#[]⟩)) 9) = w1 at *
  have hrg := run_range_map (P := Tryz.prog) w1 83 9 20 b _ _ Tryz.underlying83 hb1
  have hI := heap_alloc_new w1 (.mapIter (some b) n #[] n)
  have hB2 := hB.alloc (by omega) (.mapIter (some b) n #[] n)
  have hN2 := (heap_alloc_old w1 (.mapIter (some b) n #[] n) (show w.heap.size < w1.heap.size by omega)).trans hN
  have hb2 := (heap_alloc_old w1 (.mapIter (some b) n #[] n) (show b < w1.heap.size by omega)).trans hb1
  have hge : w.heap.size + 1 ≤ w1.heap.size := by omega
  have HSZ := Lib.hid hszA
  have HKS := Lib.hid (show StrKeys es from fun e he => by
    have : e.key ∈ es.map (·.key) := List.mem_map.2 ⟨e, he, rfl⟩
    rw [HK.out] at this
    obtain ⟨k, _, h⟩ := List.mem_map.1 this
    exact ⟨k, h.symm⟩)
  clear hszA hlen hmk hN hb1 hB
  go_wp2_with fail
  have hsz2 : w1.heap.size + 1 ≤ (w1.alloc (.mapIter (some b) n #[] n)).heap.size := by simp
  generalize w1.alloc (.mapIter (some b) n #[] n) = w2 at *
  go_loopw [4] (fun vi wr => ∃ (seen : Array Nat) (L : List MapEntry), vi = .int .i64 (L.length : Nat) ∧ wr.heap[w1.heap.size]? = some (.mapIter (some b) n seen n) ∧ wr.heap[w.heap.size]? = some (.cells (L.map (·.key) ++ List.replicate (n - L.length) (Value.string ⟨#[]⟩)).toArray 9 (0, 0)) ∧ wr.heap[b]? = some (.map (List.toArray es) n) ∧ L.Nodup ∧ (∀ e ∈ L, e ∈ es) ∧ (∀ e ∈ es, seen.contains e.born = true → e ∈ L) ∧ (∀ e ∈ L, seen.contains e.born = true) ∧ Below w.heap.size w wr ∧ w1.heap.size + 1 ≤ wr.heap.size) (fun _ wr => (leftOf (List.toArray es) (wr.iterSeen w1.heap.size)).size)
  case atStart => exact ⟨#[], [], rfl, hI, by simpa using hN2, hb2, by simp, by simp, by simp, by simp, hB2, hsz2⟩
  case round =>
    obtain ⟨seen, L, rfl, hit, hcl, hbe, hLn, hLe, hsL, hLs, hbr, hszr⟩ := hrel
    obtain ⟨wo, rfl⟩ : ∃ wo, wo = wr := ⟨_, rfl⟩
    have hm0 := iterSeen_of hit
    have law := run_next_any (P := Tryz.prog) wo 0 w1.heap.size b n n seen _ n hit hbe (by simpa [HN.out] using HST.out.1) (Nat.le_refl _)
    rcases law with ⟨h0, hrun⟩ | ⟨e, he, w3, hw3, hrun⟩
    · have hnx : ∀ ty, (Instr.next (.pointer (some ⟨w1.heap.size, 0, none⟩)) false ty).run Tryz.prog wo = _ := fun _ => hrun
      have hperm : L.Perm es := by
        have hen : es.Nodup := nodup_of_born HST.out.2
        refine (List.perm_ext_iff_of_nodup hLn hen).2 fun a => ⟨hLe a, fun ha => hsL a ha ?_⟩
        exact all_seen _ seen h0 a (by simpa using ha)
      have hLl : L.length = n := by rw [hperm.length_eq, HN.out]
      have hsp : (L.map fun e => bytesOf e.key).Perm (ks.map fun k => k.data.toList) := by
        have h1 := hperm.map fun e => bytesOf e.key
        have h2 : (es.map fun e => bytesOf e.key) = ks.map fun k => k.data.toList := by
          have := congrArg (List.map bytesOf) HK.out
          rw [List.map_map, List.map_map] at this
          exact this
        rwa [h2] at h1
      have hH : Holds encStr wo w.heap.size 0 (L.map fun e => bytesOf e.key).toArray := by
        intro j hj
        have hj2 : j < L.length := by simpa using hj
        obtain ⟨s, hs⟩ := HKS.out L[j] (hLe _ (List.getElem_mem hj2))
        constructor
        · simp only [World.cell?, hcl]
          simp [hj2, hs, bytesOf, encStr]
          rw [List.getElem?_append_left (by simpa using hj2), List.getElem?_map, List.getElem?_eq_getElem hj2]
          simp [hs]
        · simp [World.frozen?, hcl]
      have C := Lib.hid (strings_walk w.heap.size n n _ (by simpa using hLl) wo hH (by omega) (by omega))
      have HSK := Lib.hid (sorted_keys hr hsp)
      clear hrun h0 hH hsp hperm hLl hLe hsL hLs hLn hcl hm0
      go_wp2_with fail
      refine C.out.mono ?_
      rintro e w4 ⟨rfl, hcells, hb4⟩
      have hb5 : Below w.heap.size w w4 := hbr.trans hb4
      rw [HSK.out] at hcells
      have HCE := Lib.hid hcells
      clear hcells
      go_wp2_with fail
      go_ret
      refine ⟨rfl, fun j h => ?_, hb5, by have := hb4.size; omega⟩
      have := HCE.out j (by simpa using h)
      rw [this]
      simp [encStr]
    · have hmem := mem_left he
      have hees : e ∈ es := by simpa using hmem.1
      obtain ⟨s, hs⟩ := HKS.out e hees
      have heL : e ∉ L := fun h => by have := hLs e h; rw [hmem.2] at this; cases this
      have hLlt : L.length < n := by
        have h1 : (L ++ [e]).Nodup := by
          rw [List.nodup_append]
          exact ⟨hLn, by simp, fun a ha c hc => by
            have : c = e := by simpa using hc
            subst this
            exact fun h => heL (h ▸ ha)⟩
        have h2 := nodup_le (m := es) h1 fun x hx => by
          rcases List.mem_append.1 hx with h | h
          · exact hLe x h
          · have : x = e := by simpa using h
            rw [this]; exact hees
        rw [HN.out] at h2
        simp at h2
        omega
      have hsmall := left_shrinks _ seen e he
      rw [hs] at hrun
      have hit1 : (layB w3 w1.heap.size (.mapIter (some b) n (seen.push e.born) n)).heap[w1.heap.size]? = some (.mapIter (some b) n (seen.push e.born) n) := layB_at (o' := .mapIter (some b) n seen n) (by rcases hw3 with rfl | rfl <;> exact hit)
      have hoth : ∀ k, k ≠ w1.heap.size → (layB w3 w1.heap.size (.mapIter (some b) n (seen.push e.born) n)).heap[k]? = wo.heap[k]? := fun k hk => (layB_other w3 _ hk).trans (by rcases hw3 with rfl | rfl <;> rfl)
      have hbr1 : Below w.heap.size w w3 := by
        rcases hw3 with rfl | rfl
        · exact hbr
        · exact hbr.drew
      have hbl : Below w.heap.size w (layB w3 w1.heap.size (.mapIter (some b) n (seen.push e.born) n)) := Below.lay hbr1 (by omega) _
      have hszl : w1.heap.size + 1 ≤ (layB w3 w1.heap.size (.mapIter (some b) n (seen.push e.born) n)).heap.size := by
        rw [layB_size]
        rcases hw3 with rfl | rfl <;> exact hszr
      have hbe1 := (hoth b (by omega)).trans hbe
      have hcl1 := (hoth w.heap.size (by omega)).trans hcl
      have hen := run_entry_any (P := Tryz.prog) _ w1.heap.size b n seen _ n e hit1 hbe1 hmem.1 (by simpa using HST.out.2)
      rw [hs] at hen
      generalize layB w3 w1.heap.size (.mapIter (some b) n (seen.push e.born) n) = wl at *
      have hc3 : wl.cell? ⟨w.heap.size, L.length, none⟩ = some (.string ⟨#[]⟩) := by
        have := nth_zero (cs := L.map (·.key)) (z := Value.string ⟨#[]⟩) (by simp) hLlt
        simp only [World.cell?, hcl1]
        simpa using this
      have hf3 : wl.frozen? ⟨w.heap.size, L.length, none⟩ = false := by simp [World.frozen?, hcl1]
      have hset := heap_setCell_same wl w.heap.size L.length _ 9 (.string s) hcl1
      rw [set_nth (cs := L.map (·.key)) (by simp) hLlt] at hset
      have hoth2 : ∀ k, k ≠ w.heap.size → (wl.setCell ⟨w.heap.size, L.length, none⟩ (.string s)).heap[k]? = wl.heap[k]? := fun k hk => Below.heap_setCell _ _ _ _ (by simpa using hk)
      have hszf : (wl.setCell ⟨w.heap.size, L.length, none⟩ (.string s)).heap.size = wl.heap.size := by simp [World.setCell]
      have hblf : Below w.heap.size w (wl.setCell ⟨w.heap.size, L.length, none⟩ (.string s)) := hbl.setCell (Nat.le_refl _) _
      have hitf := (hoth2 w1.heap.size (by omega)).trans hit1
      have hbf := (hoth2 b (by omega)).trans hbe1
      have hnx : ∀ ty, (Instr.next (.pointer (some ⟨w1.heap.size, 0, none⟩)) false ty).run Tryz.prog wo = _ := fun _ => hrun
      have hme : (leftOf (List.toArray es) ((wl.setCell ⟨w.heap.size, L.length, none⟩ (.string s)).iterSeen w1.heap.size)).size < (leftOf (List.toArray es) (wo.iterSeen w1.heap.size)).size := by rw [iterSeen_of hitf, hm0]; exact hsmall
      have HFIN := Lib.hid (show ∃ (seen : Array Nat) (L' : List MapEntry), Value.int .i64 ((L.length : Int) + 1) = .int .i64 (L'.length : Nat) ∧ (wl.setCell ⟨w.heap.size, L.length, none⟩ (.string s)).heap[w1.heap.size]? = some (.mapIter (some b) n seen n) ∧ (wl.setCell ⟨w.heap.size, L.length, none⟩ (.string s)).heap[w.heap.size]? = some (.cells (L'.map (·.key) ++ List.replicate (n - L'.length) (Value.string ⟨#[]⟩)).toArray 9 (0, 0)) ∧ (wl.setCell ⟨w.heap.size, L.length, none⟩ (.string s)).heap[b]? = some (.map (List.toArray es) n) ∧ L'.Nodup ∧ (∀ e ∈ L', e ∈ es) ∧ (∀ e ∈ es, seen.contains e.born = true → e ∈ L') ∧ (∀ e ∈ L', seen.contains e.born = true) ∧ Below w.heap.size w (wl.setCell ⟨w.heap.size, L.length, none⟩ (.string s)) ∧ w1.heap.size + 1 ≤ (wl.setCell ⟨w.heap.size, L.length, none⟩ (.string s)).heap.size from by
        refine ⟨seen.push e.born, L ++ [e], by simp, hitf, ?_, hbf, ?_, ?_, ?_, ?_, hblf, by rw [hszf]; exact hszl⟩
        · rw [hset]
          simp [hs]
        · rw [List.nodup_append]
          exact ⟨hLn, by simp, fun a ha c hc => by
            have : c = e := by simpa using hc
            subst this
            exact fun h => heL (h ▸ ha)⟩
        · intro q hq
          rcases List.mem_append.1 hq with h | h
          · exact hLe q h
          · have : q = e := by simpa using h
            rw [this]; exact hees
        · intro q hq hc
          rw [contains_push, Bool.or_eq_true] at hc
          rcases hc with h | h
          · exact List.mem_append.2 (.inl (hsL q hq h))
          · have : q = e := born_inj HST.out.2 hq hees (beq_iff_eq.1 h)
            rw [this]; simp
        · intro q hq
          rw [contains_push, Bool.or_eq_true]
          rcases List.mem_append.1 hq with h | h
          · exact .inl (hLs q h)
          · have : q = e := by simpa using h
            rw [this]; exact .inr (by simp))
      have HME := Lib.hid hme
      clear hrun hoth hoth2 hszf hszl hblf hitf hbf hit1 hbe1 hcl1 hset hbl hbr1 hw3 hsmall hm0 hLn hLe hsL hLs heL hme he hmem hcl hbe hit
      go_wp2_with fail
      exact ⟨HFIN.out, HME.out⟩

/-- The keys of a map, as a value of the package. -/
def keysT (ks : List ByteArray) : JV := .mk 5 0 ⟨#[]⟩ (ks.map textT) [] []

set_option maxRecDepth 100000 in
set_option maxHeartbeats 4000000 in
/-- funcKeys over a map. -/
theorem funcKeys_walk (b n : Nat) (ks : List ByteArray) (es : List MapEntry) (w : World) (hb : b < w.heap.size) (hc : w.heap[b]? = some (.map (List.toArray es) n)) (hn : es.length = n) (hk : es.map (·.key) = ks.map Value.string) (ho : es.map (·.born) = List.range es.length) (hr : Rising none ks) (hm : n ≤ 9000000000000) :
    Calls Tryz.prog 212 #[.iface 83 (.map (some b))] w fun e w' => e = .returned (.iface 80 (.slice (some ⟨w.heap.size, 0, none⟩) n n)) ∧ w'.heap[w.heap.size]? = some (.cells (ks.map fun k => Value.iface 9 (.string k)).toArray 20 (0, 0)) ∧ Below w.heap.size w w' ∧ w.heap.size < w'.heap.size := by
  have hlk : ks.length = n := by have := congrArg List.length hk; simp at this; omega
  have hmk := make_any n (by omega) w
  have hN := heap_alloc_new w (.cells (Array.replicate n Value.nilIface) 20)
  have hB := (Below.refl w.heap.size w).alloc (Nat.le_refl _) (.cells (Array.replicate n Value.nilIface) 20)
  have hb1 := kept_below hB hb hc
  have hszA : (w.alloc (.cells (Array.replicate n Value.nilIface) 20)).heap.size = w.heap.size + 1 := by simp
  have hlen : ∀ ty, (Builtin.len_ #[83] ty #[.map (some b)]).run Tryz.prog w = .ok (goInt n) w := fun ty => by rw [run_len_map w 83 ty b _ _ (by kernel_rfl) hc]; simp [hn]
  have C := Lib.hid (keys_walk b n ks es (w.alloc (.cells (Array.replicate n Value.nilIface) 20)) (by omega) hb1 hn hk ho hr hm)
  have HLK := Lib.hid hlk
  have HSZ := Lib.hid hszA
  clear hn hk ho hc hlk hb1 hszA
  go_enter Tryz.func212, Tryz.ntmps212
  go_upto_region 16 with (fail)
  generalize w.alloc (.cells (Array.replicate n Value.nilIface) 20) = w1 at *
  clear hlen hmk
  go_wp2_with fail
  refine C.out.mono ?_
  rintro e w2 ⟨rfl, hcells, hb2, hlt2⟩
  have hN2 := kept_below hb2 (by have := HSZ.out; omega) hN
  have hB2 := hB.trans (hb2.mono (by have := HSZ.out; omega))
  have hsz2 : w.heap.size + 2 ≤ w2.heap.size := by have := HSZ.out; omega
  have hge : w.heap.size + 1 ≤ w1.heap.size := by have := HSZ.out; omega
  have HCE := Lib.hid hcells
  clear hcells hN hB hb2
  go_wp2_with fail
  go_loopw [44] (fun vi wr => ∃ j : Nat, vi = .int .i64 j ∧ j ≤ n ∧ wr.heap[w.heap.size]? = some (.cells ((ks.take j).map (fun k => Value.iface 9 (.string k)) ++ List.replicate (n - j) Value.nilIface).toArray 20 (0, 0)) ∧ (∀ k, k ≠ w.heap.size → wr.heap[k]? = w2.heap[k]?) ∧ Below w.heap.size w wr ∧ w.heap.size + 2 ≤ wr.heap.size) (fun vi _ => n - (intOf vi).toNat)
  case atStart => exact ⟨0, rfl, Nat.zero_le _, by simpa using hN2, fun _ _ => rfl, hB2, hsz2⟩
  case round =>
    obtain ⟨j, rfl, hj, hcl, hoth, hbr, hszr⟩ := hrel
    obtain ⟨wo, rfl⟩ : ∃ wo, wo = wr := ⟨_, rfl⟩
    by_cases hjn : j < n
    · have hjk : j < ks.length := by rw [HLK.out]; exact hjn
      have hcell : wo.cell? ⟨w1.heap.size, j, none⟩ = some (.string ks[j]) := by
        have := HCE.out j hjk
        simp only [World.cell?, hoth w1.heap.size (by omega)] at this ⊢
        exact this
      have hl0 : ((ks.take j).map fun k => Value.iface 9 (.string k)).length = j := by simp; omega
      have hc3 : wo.cell? ⟨w.heap.size, j, none⟩ = some .nilIface := by
        have := nth_zero (z := Value.nilIface) hl0 hjn
        simp only [World.cell?, hcl]
        simpa using this
      have hf3 : wo.frozen? ⟨w.heap.size, j, none⟩ = false := by simp [World.frozen?, hcl]
      have hset := heap_setCell_same wo w.heap.size j _ 20 (.iface 9 (.string ks[j])) hcl
      rw [set_nth hl0 hjn] at hset
      have htk : (ks.take (j + 1)).map (fun k => Value.iface 9 (.string k)) = (ks.take j).map (fun k => Value.iface 9 (.string k)) ++ [.iface 9 (.string ks[j])] := by rw [List.take_succ_eq_append_getElem hjk, List.map_append]; rfl
      rw [← htk] at hset
      have hoth2 : ∀ k, k ≠ w.heap.size → (wo.setCell ⟨w.heap.size, j, none⟩ (.iface 9 (.string ks[j]))).heap[k]? = w2.heap[k]? := fun k hk => (Below.heap_setCell _ _ _ _ (by simpa using hk)).trans (hoth k hk)
      have hszf : (wo.setCell ⟨w.heap.size, j, none⟩ (.iface 9 (.string ks[j]))).heap.size = wo.heap.size := by simp [World.setCell]
      have HF := Lib.hid (show _ ∧ _ ∧ _ from ⟨hset, hoth2, hszf⟩)
      clear hset hoth2 hszf htk hl0 hcl hoth
      generalize ks[j] = key at *
      go_wp2_with fail
      exact ⟨⟨j + 1, by go_num, by omega, HF.out.1, HF.out.2.1, hbr.setCell (Nat.le_refl _) _, by rw [HF.out.2.2]; exact hszr⟩, by simp [intOf]; omega⟩
    · have ej : j = n := by omega
      subst ej
      rw [List.take_of_length_le (by rw [HLK.out]; exact Nat.le_refl _)] at hcl
      have HCL := Lib.hid hcl
      clear hcl hoth
      go_wp2_with fail
      go_ret
      exact ⟨rfl, by simpa using HCL.out, hbr, by omega⟩

/-- What funcKeys gives stands for the keys. -/
theorem keysT_rep {w : World} {g n : Nat} {ks : List ByteArray} (hn : ks.length = n) (hm : n ≤ 9000000000000) (hs : ∀ k ∈ ks, k.size ≤ 140737488351232) (hg : g < w.heap.size) (hc : w.heap[g]? = some (.cells (ks.map fun k => Value.iface 9 (.string k)).toArray 20 (0, 0))) :
    GRep w 0 w.heap.size (keysT ks) (.iface 80 (.slice (some ⟨g, 0, none⟩) n n)) := by
  subst hn
  unfold keysT GRep
  refine .inr (.inr (.inr (.inr (.inr (.inr (.inl ⟨rfl, g, ks.map fun k => Value.iface 9 (.string k), 20, Nat.zero_le _, hg, by simp, by simp; omega, hc, ?_⟩))))))
  clear hc hm
  induction ks with
  | nil => exact GVals.nil
  | cons a r ih =>
    rw [List.map_cons, List.map_cons]
    unfold GVals
    refine ⟨_, _, rfl, ?_, ih fun k hk => hs k (by simp [hk])⟩
    unfold textT GRep
    exact .inr (.inr (.inr (.inr (.inr (.inl ⟨rfl, hs a (by simp), rfl⟩)))))
end Go.Proofs.YtmjegeipnaalnaaGreatDoor

/- The package's order over lists. -/
namespace Go.Proofs.YtmjegeipnaalnaaGreatDoor
open Go.RowKit

/-- What the package's order promises for one second value. -/
def OrdC (y : JV) : Prop := ∀ (x : JV) (l r : Value) (w : World), GRep w 0 w.heap.size x l → GRep w 0 w.heap.size y r → Good x → Good y → Short x → Short y →
  Calls Tryz.prog 143 #[l, r] w fun e w' => e = .returned (.int .i64 (ordT x y)) ∧ Below w.heap.size w w'

set_option maxRecDepth 100000 in
set_option maxHeartbeats 8000000 in
theorem ord_list (l l' : List JV) (ih : ∀ y ∈ l', OrdC y) (gl : GoodL l) (gl' : GoodL l') (sl : ShortL l) (sl' : ShortL l') (b b' n n' : Nat) (cs cs' : List Value) (T T' : TypeId) (w : World) (hn : l.length = n) (hn' : l'.length = n') (hm : n ≤ 9000000000000) (_hm' : n' ≤ 9000000000000) (hb : b < w.heap.size) (hb' : b' < w.heap.size)
    (hc : w.heap[b]? = some (.cells (List.toArray cs) T (0, 0))) (hc' : w.heap[b']? = some (.cells (List.toArray cs') T' (0, 0))) (hv : GVals w 0 w.heap.size l cs) (hv' : GVals w 0 w.heap.size l' cs') :
    Calls Tryz.prog 210 #[.slice (some ⟨b, 0, none⟩) n n, .slice (some ⟨b', 0, none⟩) n' n'] w fun e w' => ∃ v, e = .returned v ∧ v = .int .i64 (ordL l l') ∧ Below w.heap.size w w' := by
  have HN := Lib.hid hn
  have HN' := Lib.hid hn'
  have HL := Lib.hid hv.length
  have HL' := Lib.hid hv'.length
  have HC := Lib.hid hc
  have HC' := Lib.hid hc'
  have HV := Lib.hid hv
  have HV' := Lib.hid hv'
  have HI := Lib.hid (fun W => ord_int (n : Int) (n' : Int) W)
  obtain ⟨m, hmm⟩ : ∃ m : Nat, (min (n : Int) n' = (m : Int)) ∧ m ≤ n ∧ m ≤ n' ∧ (m = n ∨ m = n') := ⟨min n n', by omega, by omega, by omega, by omega⟩
  obtain ⟨hmin, hm1, hm2, hm3⟩ := hmm
  clear hn hn' hc hc' hv hv'
  go_enter Tryz.func210, Tryz.ntmps210
  go_wp2_with fail
  clear hmin
  go_loopw [12] (fun i wr => ∃ j : Nat, j ≤ m ∧ i = .int .i64 j ∧ ordL l l' = ordL (l.drop j) (l'.drop j) ∧ Below w.heap.size w wr) (fun i _ => m - (intOf i).toNat)
  case atStart => exact ⟨0, Nat.zero_le _, rfl, by simp, Below.refl _ _⟩
  case round =>
    obtain ⟨j, hj, rfl, hjt, hbr⟩ := hrel
    obtain ⟨wo, rfl⟩ : ∃ wo, wo = wr := ⟨_, rfl⟩
    by_cases hjm : j < m
    · have hjl : j < l.length := by rw [HN.out]; omega
      have hjc : j < cs.length := by rw [HL.out]; exact hjl
      have hjl' : j < l'.length := by rw [HN'.out]; omega
      have hjc' : j < cs'.length := by rw [HL'.out]; exact hjl'
      have hst := ordL_step hjl hjl'
      have r0 := cell_regrown (cell_list (kept_below hbr hb HC.out) j hjc)
      have r1 := cell_regrown (cell_list (kept_below hbr hb' HC'.out) j hjc')
      have hsw : w.heap.size ≤ wo.heap.size := hbr.size
      have ci := fun dd os => ih l'[j] (List.getElem_mem hjl') l[j] cs[j] cs'[j] (Sort.grow (redrawn wo dd) os) ((HV.out.get j hjl hjc).below (hbr.trans ((below_regrown wo dd os).mono hsw)) (by have := (below_regrown wo dd os).size; omega))
        ((HV'.out.get j hjl' hjc').below (hbr.trans ((below_regrown wo dd os).mono hsw)) (by have := (below_regrown wo dd os).size; omega)) (gl.get _ (List.getElem_mem hjl)) (gl'.get _ (List.getElem_mem hjl')) (sl.get _ (List.getElem_mem hjl)) (sl'.get _ (List.getElem_mem hjl'))
      generalize ordT l[j] l'[j] = q at *
      generalize cs[j] = c1 at *
      generalize cs'[j] = c2 at *
      have CI := Lib.hid ci
      clear ci
      have hjn : j < n := by omega
      have hjn' : j < n' := by omega
      by_cases hq : q = 0
      · subst hq
        rw [if_pos rfl] at hst
        have HS := Lib.hid (hjt.trans hst)
        clear hst hjt
        go_upto_region 4 with (fail)
        refine wp_region_quiet_below (by kernel_rfl) (by kernel_rfl) ?_
        repeat (go_big_quiet_step (first | (go_at_call 143; exact Calls.regrown_of (CI.out _ _))))
        refine wpQuiet_nil ?_
        intro w' hw'
        obtain ⟨⟨dq, osq⟩, rfl⟩ := hw'
        have hb4 : Below w.heap.size w (Sort.grow (redrawn wo dq) osq) := hbr.trans ((below_regrown wo dq osq).mono hsw)
        clear r0 r1
        go_wp2_with fail
        exact ⟨⟨j + 1, by omega, by go_num, HS.out, hb4⟩, by simp [intOf]; omega⟩
      · rw [if_neg hq] at hst
        have HS := Lib.hid (hjt.trans hst)
        have hqb : (q != 0) = true := by simpa using hq
        clear hst hjt hq
        go_upto_region 4 with (fail)
        refine wp_region_quiet_below (by kernel_rfl) (by kernel_rfl) ?_
        repeat (go_big_quiet_step (first | (go_at_call 143; exact Calls.regrown_of (CI.out _ _))))
        refine wpQuiet_nil ?_
        intro w' hw'
        obtain ⟨⟨dq, osq⟩, rfl⟩ := hw'
        have hb4 : Below w.heap.size w (Sort.grow (redrawn wo dq) osq) := hbr.trans ((below_regrown wo dq osq).mono hsw)
        clear r0 r1
        go_wp2_with fail
        try rw [Exit.noGoto_ret]
        go_ret
        exact ⟨_, rfl, by rw [HS.out]; rfl, hb4⟩
    · have ej : j = m := by omega
      rw [ordL_end (by rw [HN.out, HN'.out]; omega) (by rw [HN.out]; omega) (by rw [HN'.out]; omega), HN.out, HN'.out] at hjt
      have HJ := Lib.hid hjt
      clear hjt
      go_wp2_with fail
      refine (HI.out _).mono ?_
      rintro e w1 ⟨rfl, rfl⟩
      go_wp2_with fail
      try rw [Exit.noGoto_ret]
      go_ret
      exact ⟨_, rfl, by rw [HJ.out]; rfl, hbr⟩
end Go.Proofs.YtmjegeipnaalnaaGreatDoor
