/- Integers through the package: into Go, multiplied, added, the rest of a division, and back. -/
import Derived.Test.YtmjegeipnaalnaaGreatDoorGrRep
import Derived.Lib.Hide
import Derived.Shelf.Abstract
import Derived.Outline
namespace Go.Proofs.YtmjegeipnaalnaaGreatDoor
open Go.RowKit

/-- An integer as a value of the thin package. -/
def numV (h : Int) : Value := .agg #[.int .i64 3, .int .i64 h, .string ⟨#[]⟩, .slice none 0 0, .slice none 0 0, .slice none 0 0]
/-- A right answer that is an integer. -/
def numR (h : Int) : Value := .agg #[.int .i64 3, .int .i64 h, .string ⟨#[]⟩, .slice none 0 0, .slice none 0 0, .slice none 0 0, .int .i64 0]

set_option maxRecDepth 100000 in
set_option maxHeartbeats 400000 in
theorem sw_ii (f : Nat) (he : ∀ args w, (callFunc f args).run Tryz.prog w = .ok (.enter f args) w) (x y : Int) (g1 g2 g3 g4 g5 g6 : Value) (w : World) (R : Value → World → Prop)
    (h : Calls Tryz.prog f #[.int .i64 x, .int .i64 y] w fun e w' => ∃ v, e = .returned v ∧ R v w') :
    Calls Tryz.prog 132 #[.iface 3 (.int .i64 x), .iface 3 (.int .i64 y), .func (.func f) #[] #[], g1, g2, g3, g4, g5, g6] w fun e w' => ∃ v, e = .returned v ∧ R v w' := by
  go_enter Tryz.func132, Tryz.ntmps132
  go_wp2_with fail
  refine h.mono ?_
  rintro e w' ⟨v, rfl, hR⟩
  go_wp2
  go_ret
  exact ⟨_, rfl, hR⟩

set_option maxHeartbeats 400000 in
theorem toGo_int (x : Int) (t l k v : Value) (w : World) (h1 : (-18014398509481984) ≤ x) (h2 : x ≤ 18014398509481984) (he : (x.tmod 2 == 0) = true) :
    Calls Tryz.prog 41 #[.agg #[.int .i64 3, .int .i64 x, t, l, k, v]] w fun e w' => e = .returned (.tuple #[.iface 3 (.int .i64 (x.tdiv 2)), .bool true]) ∧ Below w.heap.size w w' := by
  have hb := (Below.refl w.heap.size w).alloc (Nat.le_refl _) (.cells #[.int .i64 3, .int .i64 x, t, l, k, v] 26)
  by_cases h0 : 0 ≤ x
  · have he2 : (x % 2 == 0) = true := by rw [← he, Int.tmod_eq_emod_of_nonneg h0]
    have hd : x.tdiv 2 = x / 2 := Int.tdiv_eq_ediv_of_nonneg h0
    rw [hd]
    clear hd
    go_enter Tryz.func41, Tryz.ntmps41
    go_wp2
    go_ret2
    exact ⟨rfl, hb⟩
  · go_enter Tryz.func41, Tryz.ntmps41
    go_wp2
    go_ret2
    exact ⟨rfl, hb⟩

set_option maxHeartbeats 1000000 in
theorem fromGo_int (n : Int) (w : World) (h1 : -4611686018427387904 ≤ n) (h2 : n ≤ 4611686018427387903) :
    Calls Tryz.prog 83 #[.iface 3 (.int .i64 n)] w fun e w' => e = .returned (.tuple #[numV (2 * n), .bool true]) ∧ Below w.heap.size w w' := by
  go_enter Tryz.func83, Tryz.ntmps83
  go_wp2
  refine bodyPost_ret (v := .tuple #[.agg #[.int .i64 3, .int .i64 (2 * n), .string ⟨#[]⟩, .slice none 0 0, .slice none 0 0, .slice none 0 0], .bool true]) (by simp [results, Tryz.results83, go_sem]) rfl ⟨rfl, ?_⟩
  exact (Below.refl _ _).alloc (Nat.le_refl _) _

set_option maxHeartbeats 1000000 in
theorem result_int (n : Int) (w : World) (h1 : -4611686018427387904 ≤ n) (h2 : n ≤ 4611686018427387903) :
    Calls Tryz.prog 42 #[.iface 3 (.int .i64 n)] w fun e w' => e = .returned (numR (2 * n)) ∧ Below w.heap.size w w' := by
  have hX := heap_alloc_new w (.cells #[.int .i64 0, .int .i64 0, .string ⟨#[]⟩, .slice none 0 0, .slice none 0 0, .slice none 0 0, .int .i64 0] 34)
  have hB := (Below.refl w.heap.size w).alloc (Nat.le_refl _) (.cells #[.int .i64 0, .int .i64 0, .string ⟨#[]⟩, .slice none 0 0, .slice none 0 0, .slice none 0 0, .int .i64 0] 34)
  go_enter Tryz.func42, Tryz.ntmps42
  go_wp2_with fail
  refine (fromGo_int n _ h1 h2).mono ?_
  rintro e w2 ⟨rfl, hb⟩
  (unfold numV; have hX2 := kept_below hb (by simp) hX; have hB2 := hB.trans (hb.mono (by simp)); obtain ⟨x0, x1, x2, x3, x4, x5, x6⟩ := box7 hX2; obtain ⟨f0, f1, f2, f3, f4, f5, f6⟩ := frozen7 hX2; have hlt : w.heap.size < w2.heap.size := by have := hb.size; simp at this; omega)
  go_wp2
  refine bodyPost_ret (v := .agg #[.int .i64 3, .int .i64 (2 * n), .string ⟨#[]⟩, .slice none 0 0, .slice none 0 0, .slice none 0 0, .int .i64 0]) (by simp [results, Tryz.results42, go_sem, *]) rfl ⟨rfl, ?_⟩
  exact (((((((hB2.setCell (Nat.le_refl _) _).setCell (Nat.le_refl _) _).setCell (Nat.le_refl _) _).setCell (Nat.le_refl _) _).setCell (Nat.le_refl _) _).setCell (Nat.le_refl _) _).setCell (Nat.le_refl _) _).alloc (by simp; omega) _

set_option maxHeartbeats 400000 in
theorem mul1_walk (x y : Int) (w : World) (h1 : 0 ≤ y) (h2 : y ≤ 16777216) (h3 : 0 ≤ x) (h4 : x ≤ 16777216) (h5 : 1 ≤ y → ((x * y).tdiv y == x) = true) (h6 : wrap64 (x * y) = x * y) (h7 : 0 ≤ x * y) (h8 : x * y ≤ 281474976710656) (h9 : 1 ≤ y → (x * y / y == x) = true) :
    Calls Tryz.prog 156 #[.int .i64 x, .int .i64 y] w fun e w' => ∃ v, e = .returned v ∧ v = .iface 3 (.int .i64 (x * y)) ∧ w' = w := by
  by_cases hy : y = 0
  · subst hy
    go_enter Tryz.func156, Tryz.ntmps156
    go_wp2
    go_ret
    exact ⟨_, rfl, by simp, rfl⟩
  · have q1 := h5 (by omega)
    have q2 := h9 (by omega)
    clear h5 h9
    go_enter Tryz.func156, Tryz.ntmps156
    go_wp2
    go_ret
    exact ⟨_, rfl, rfl, rfl⟩

set_option maxHeartbeats 400000 in
theorem add1_walk (x y : Int) (w : World) (h1 : 0 ≤ y) (h2 : y ≤ 281474976710656) (h3 : 0 ≤ x) (h4 : x ≤ 281474976710656) :
    Calls Tryz.prog 146 #[.int .i64 x, .int .i64 y] w fun e w' => ∃ v, e = .returned v ∧ v = .iface 3 (.int .i64 (x + y)) ∧ w' = w := by
  go_enter Tryz.func146, Tryz.ntmps146
  go_wp2
  go_ret
  exact ⟨_, rfl, rfl, rfl⟩

set_option maxHeartbeats 400000 in
theorem mod1_walk (x y : Int) (w : World) (h1 : 1 ≤ y) (h2 : y ≤ 281474976710656) (h3 : 0 ≤ x) (h4 : x ≤ 1125899906842624) :
    Calls Tryz.prog 167 #[.int .i64 x, .int .i64 y] w fun e w' => ∃ v, e = .returned v ∧ v = .iface 3 (.int .i64 (x % y)) ∧ w' = w := by
  go_enter Tryz.func167, Tryz.ntmps167
  go_wp2
  go_ret
  exact ⟨_, rfl, rfl, rfl⟩

theorem enters156 (args : Array Value) (w : World) : (callFunc 156 args).run Tryz.prog w = .ok (.enter 156 args) w := Go.Proofs.enters_of Tryz.func156 (by kernel_rfl) rfl args w
theorem enters146 (args : Array Value) (w : World) : (callFunc 146 args).run Tryz.prog w = .ok (.enter 146 args) w := Go.Proofs.enters_of Tryz.func146 (by kernel_rfl) rfl args w
theorem enters167 (args : Array Value) (w : World) : (callFunc 167 args).run Tryz.prog w = .ok (.enter 167 args) w := Go.Proofs.enters_of Tryz.func167 (by kernel_rfl) rfl args w

/-- What a door of the package does with two integers. -/
def DoorInt (f : Nat) (x y z : Int) : Prop := ∀ w : World, Calls Tryz.prog f #[.iface 3 (.int .i64 x), .iface 3 (.int .i64 y)] w fun e w' => e = .returned (.iface 3 (.int .i64 z)) ∧ w' = w

set_option maxHeartbeats 400000 in
theorem mul_func (x y : Int) (w : World) (h1 : 0 ≤ y) (h2 : y ≤ 16777216) (h3 : 0 ≤ x) (h4 : x ≤ 16777216) (h5 : 1 ≤ y → ((x * y).tdiv y == x) = true) (h6 : wrap64 (x * y) = x * y) (h7 : 0 ≤ x * y) (h8 : x * y ≤ 281474976710656) (h9 : 1 ≤ y → (x * y / y == x) = true) :
    Calls Tryz.prog 89 #[.nilIface, .iface 3 (.int .i64 x), .iface 3 (.int .i64 y)] w fun e w' => e = .returned (.iface 3 (.int .i64 (x * y))) ∧ w' = w := by
  have c := fun g1 g2 g3 g4 g5 g6 => sw_ii 156 enters156 x y g1 g2 g3 g4 g5 g6 w _ (mul1_walk x y w h1 h2 h3 h4 h5 h6 h7 h8 h9)
  have C := Lib.hid c
  clear c
  go_enter Tryz.func89, Tryz.ntmps89
  go_wp2_with (go_at_call 132; refine (C.out _ _ _ _ _ _).mono ?_; rintro e w1 ⟨v, rfl, rfl, rfl⟩)
  go_ret
  exact ⟨rfl, rfl⟩
set_option maxHeartbeats 400000 in
theorem mul_door (x y : Int) (h1 : 0 ≤ y) (h2 : y ≤ 16777216) (h3 : 0 ≤ x) (h4 : x ≤ 16777216) (h5 : 1 ≤ y → ((x * y).tdiv y == x) = true) (h6 : wrap64 (x * y) = x * y) (h7 : 0 ≤ x * y) (h8 : x * y ≤ 281474976710656) (h9 : 1 ≤ y → (x * y / y == x) = true) : DoorInt 50 x y (x * y) := by
  intro w
  have c := mul_func x y w h1 h2 h3 h4 h5 h6 h7 h8 h9
  have C := Lib.hid c
  clear c
  go_enter Tryz.func50, Tryz.ntmps50
  go_wp2_with (go_at_call 89; refine C.out.mono ?_; rintro e w1 ⟨rfl, rfl⟩)
  go_ret
  exact ⟨rfl, rfl⟩

set_option maxHeartbeats 400000 in
theorem add_func (x y : Int) (w : World) (h1 : 0 ≤ y) (h2 : y ≤ 281474976710656) (h3 : 0 ≤ x) (h4 : x ≤ 281474976710656) :
    Calls Tryz.prog 88 #[.nilIface, .iface 3 (.int .i64 x), .iface 3 (.int .i64 y)] w fun e w' => e = .returned (.iface 3 (.int .i64 (x + y))) ∧ w' = w := by
  have c := fun g1 g2 g3 g4 g5 g6 => sw_ii 146 enters146 x y g1 g2 g3 g4 g5 g6 w _ (add1_walk x y w h1 h2 h3 h4)
  have C := Lib.hid c
  clear c
  go_enter Tryz.func88, Tryz.ntmps88
  go_wp2_with (go_at_call 132; refine (C.out _ _ _ _ _ _).mono ?_; rintro e w1 ⟨v, rfl, rfl, rfl⟩)
  go_ret
  exact ⟨rfl, rfl⟩
set_option maxHeartbeats 400000 in
theorem add_door (x y : Int) (h1 : 0 ≤ y) (h2 : y ≤ 281474976710656) (h3 : 0 ≤ x) (h4 : x ≤ 281474976710656) : DoorInt 49 x y (x + y) := by
  intro w
  have c := add_func x y w h1 h2 h3 h4
  have C := Lib.hid c
  clear c
  go_enter Tryz.func49, Tryz.ntmps49
  go_wp2_with (go_at_call 88; refine C.out.mono ?_; rintro e w1 ⟨rfl, rfl⟩)
  go_ret
  exact ⟨rfl, rfl⟩

set_option maxHeartbeats 400000 in
theorem mod_func (x y : Int) (w : World) (h1 : 1 ≤ y) (h2 : y ≤ 281474976710656) (h3 : 0 ≤ x) (h4 : x ≤ 1125899906842624) :
    Calls Tryz.prog 90 #[.nilIface, .iface 3 (.int .i64 x), .iface 3 (.int .i64 y)] w fun e w' => e = .returned (.iface 3 (.int .i64 (x % y))) ∧ w' = w := by
  have c := fun g1 g2 g3 g4 g5 g6 => sw_ii 167 enters167 x y g1 g2 g3 g4 g5 g6 w _ (mod1_walk x y w h1 h2 h3 h4)
  have C := Lib.hid c
  clear c
  go_enter Tryz.func90, Tryz.ntmps90
  go_wp2_with (go_at_call 132; refine (C.out _ _ _ _ _ _).mono ?_; rintro e w1 ⟨v, rfl, rfl, rfl⟩)
  go_ret
  exact ⟨rfl, rfl⟩
set_option maxHeartbeats 400000 in
theorem mod_door (x y : Int) (h1 : 1 ≤ y) (h2 : y ≤ 281474976710656) (h3 : 0 ≤ x) (h4 : x ≤ 1125899906842624) : DoorInt 51 x y (x % y) := by
  intro w
  have c := mod_func x y w h1 h2 h3 h4
  have C := Lib.hid c
  clear c
  go_enter Tryz.func51, Tryz.ntmps51
  go_wp2_with (go_at_call 90; refine C.out.mono ?_; rintro e w1 ⟨rfl, rfl⟩)
  go_ret
  exact ⟨rfl, rfl⟩

theorem toGo_two (a : Int) (t l k v : Value) (w : World) (h1 : 0 ≤ a) (h2 : a ≤ 9007199254740992) :
    Calls Tryz.prog 41 #[.agg #[.int .i64 3, .int .i64 (2 * a), t, l, k, v]] w fun e w' => e = .returned (.tuple #[.iface 3 (.int .i64 a), .bool true]) ∧ Below w.heap.size w w' := by
  have h := toGo_int (2 * a) t l k v w (by omega) (by omega) (by rw [Int.tmod_eq_emod_of_nonneg (by omega)]; simp)
  rw [show (2 * a).tdiv 2 = a by rw [Int.tdiv_eq_ediv_of_nonneg (by omega)]; omega] at h
  exact h

end Go.Proofs.YtmjegeipnaalnaaGreatDoor
