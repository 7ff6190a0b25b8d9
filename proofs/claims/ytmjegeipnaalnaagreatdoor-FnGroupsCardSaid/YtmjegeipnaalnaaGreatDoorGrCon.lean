/- The program's containment: its functions for pairs of integers, floats, texts, and for all that is left. -/
import Derived.Test.YtmjegeipnaalnaaGreatDoorGrSw
import Derived.Test.YtmjegeipnaalnaaGreatDoorGrToGoA
namespace Go.Proofs.YtmjegeipnaalnaaGreatDoor
open Go.RowKit

@[go_sem] theorem eq_err_bool (a : Option Addr) (b : Bool) (w : World) : (binOp .eql 20 (.iface 137 (.pointer a)) (.iface 4 (.bool b))).run Tryz.prog w = .ok (.bool false) w := by kernel_rfl
@[go_sem] theorem ne_err_bool (a : Option Addr) (b : Bool) (w : World) : (binOp .neq 20 (.iface 137 (.pointer a)) (.iface 4 (.bool b))).run Tryz.prog w = .ok (.bool (!false)) w := by kernel_rfl

@[go_sem] theorem guard_nil (i j : Nat) (w : World) : (eqGuard .eql 20 (.tmp i) (.tmp j) .nilIface .nilIface).run Tryz.prog w = .ok () w := by kernel_rfl

/-- What the program answers: the truth, or (kinds differ) an error. -/
def Ans (x y : JV) (v : Value) : Prop := v = .iface 4 (.bool (holdsV x y)) ∨ (holdsV x y = false ∧ x.kind ≠ y.kind ∧ ∃ a, v = .iface 137 (.pointer a))

set_option maxRecDepth 100000 in
theorem con_int (x y : Int) (w : World) : Calls Tryz.prog 133 #[.int .i64 x, .int .i64 y] w fun e w' => ∃ v, e = .returned v ∧ v = .iface 4 (.bool (x == y)) ∧ w' = w := by
  go_enter Tryz.func133, Tryz.ntmps133
  go_wp2_with fail
  go_ret
  exact ⟨_, rfl, rfl, rfl⟩
set_option maxRecDepth 100000 in
theorem con_flo (x y : Nat) (z : Bool) (h : (Ieee.double.order x y == some .eq) = z) (w : World) : Calls Tryz.prog 134 #[.float .f64 x, .float .f64 y] w fun e w' => ∃ v, e = .returned v ∧ v = .iface 4 (.bool z) ∧ w' = w := by
  have h2 : (FloatKind.f64.format.order x y == some .eq) = z := h
  clear h
  go_enter Tryz.func134, Tryz.ntmps134
  go_wp2_with fail
  go_ret
  exact ⟨_, rfl, rfl, rfl⟩
set_option maxRecDepth 100000 in
theorem con_str (x y : ByteArray) (hx : x.size ≤ 140737488351232) (hy : y.size ≤ 140737488351232) (w : World) : Calls Tryz.prog 137 #[.string x, .string y] w fun e w' => ∃ v, e = .returned v ∧ v = .iface 4 (.bool (decide (0 ≤ findB x y))) ∧ w' = w := by
  go_enter Tryz.func137, Tryz.ntmps137
  go_wp2_with (go_at_call 138; refine (zzContains_walk x y _ hx hy).mono ?_; rintro e w1 ⟨rfl, rfl⟩)
  go_ret
  exact ⟨_, rfl, rfl, rfl⟩
set_option maxRecDepth 100000 in
set_option maxHeartbeats 4000000 in
theorem con_fall (l r : Value) (i j : Nat) (hl : Shp l i) (hr : Shp r j) (hij : i ≠ j) (w : World) :
    Calls Tryz.prog 141 #[l, r] w fun e w' => ∃ v, e = .returned v ∧ (∃ a, v = .iface 137 (.pointer a)) ∧ Below w.heap.size w w' := by
  have hB := (Below.refl w.heap.size w).alloc (Nat.le_refl _) (.cells #[.string ⟨#[99, 111, 110, 116, 97, 105, 110, 115]⟩, l, r] 139)
  have HB := Lib.hid hB
  clear hB
  cases hl <;> cases hr
  all_goals first
    | (exfalso; omega)
    | (clear hij
       go_enter Tryz.func141, Tryz.ntmps141
       go_wp2_with fail
       go_ret
       exact ⟨_, rfl, ⟨_, rfl⟩, HB.out⟩)
set_option maxRecDepth 100000 in
theorem con_nil (w : World) : Calls Tryz.prog 141 #[.nilIface, .nilIface] w fun e w' => ∃ v, e = .returned v ∧ v = .iface 4 (.bool true) ∧ w' = w := by
  go_enter Tryz.func141, Tryz.ntmps141
  go_wp2_with fail
  go_ret
  exact ⟨_, rfl, rfl, rfl⟩
set_option maxRecDepth 100000 in
theorem con_bool (a b : Bool) (w : World) : Calls Tryz.prog 141 #[.iface 4 (.bool a), .iface 4 (.bool b)] w fun e w' => ∃ v, e = .returned v ∧ ((a = b ∧ v = .iface 4 (.bool true)) ∨ (a ≠ b ∧ ∃ p, v = .iface 137 (.pointer p))) ∧ Below w.heap.size w w' := by
  have HB := Lib.hid ((Below.refl w.heap.size w).alloc (Nat.le_refl _) (.cells #[.string ⟨#[99, 111, 110, 116, 97, 105, 110, 115]⟩, .iface 4 (.bool a), .iface 4 (.bool b)] 139))
  by_cases h : a = b
  · subst h
    have h2 : (a == a) = true := by simp
    go_enter Tryz.func141, Tryz.ntmps141
    go_wp2_with fail
    go_ret
    exact ⟨_, rfl, .inl ⟨by first | trivial | rfl, rfl⟩, Below.refl _ _⟩
  · have h2 : (a == b) = false := by simpa using h
    go_enter Tryz.func141, Tryz.ntmps141
    go_wp2_with fail
    go_ret
    exact ⟨_, rfl, .inr ⟨h, _, rfl⟩, HB.out⟩
end Go.Proofs.YtmjegeipnaalnaaGreatDoor
