/- The package's switch over the types of two operands, for answers that are integers: which of its functions is called. -/
import Derived.Test.YtmjegeipnaalnaaGreatDoorGrSw
namespace Go.Proofs.YtmjegeipnaalnaaGreatDoor
open Go.RowKit

set_option maxRecDepth 100000 in
set_option maxHeartbeats 400000 in
theorem sx_ii (f : Nat) (he : ∀ args w, (callFunc f args).run Tryz.prog w = .ok (.enter f args) w) (x y : Int) (g1 g2 g3 g4 g5 g6 : Value) (w : World) (R : Value → World → Prop)
    (h : Calls Tryz.prog f #[.int .i64 x, .int .i64 y] w fun e w' => ∃ v, e = .returned v ∧ R v w') :
    Calls Tryz.prog 205 #[.iface 3 (.int .i64 x), .iface 3 (.int .i64 y), .func (.func f) #[] #[], g1, g2, g3, g4, g5, g6] w fun e w' => ∃ v, e = .returned v ∧ R v w' := by
  go_enter Tryz.func205, Tryz.ntmps205
  go_wp2_with fail
  refine h.mono ?_
  rintro e w' ⟨v, rfl, hR⟩
  go_wp2
  go_ret
  exact ⟨_, rfl, hR⟩

set_option maxRecDepth 100000 in
set_option maxHeartbeats 400000 in
theorem sx_if (f : Nat) (he : Enters f) (x : Int) (y : Nat) (g1 g2 g3 g4 g5 g6 : Value) (w : World) (R : Value → World → Prop)
    (h : Calls Tryz.prog f #[.float .f64 (floatOfInt .f64 x), .float .f64 y] w fun e w' => ∃ v, e = .returned v ∧ R v w') :
    Calls Tryz.prog 205 #[.iface 3 (.int .i64 x), .iface 79 (.float .f64 y), g1, .func (.func f) #[] #[], g2, g3, g4, g5, g6] w fun e w' => ∃ v, e = .returned v ∧ R v w' := by
  unfold Enters at he
  go_enter Tryz.func205, Tryz.ntmps205
  go_wp2_with fail
  refine h.mono ?_
  rintro e w' ⟨v, rfl, hR⟩
  go_wp2
  go_ret
  exact ⟨_, rfl, hR⟩
set_option maxRecDepth 100000 in
set_option maxHeartbeats 400000 in
theorem sx_fi (f : Nat) (he : Enters f) (x : Nat) (y : Int) (g1 g2 g3 g4 g5 g6 : Value) (w : World) (R : Value → World → Prop)
    (h : Calls Tryz.prog f #[.float .f64 x, .float .f64 (floatOfInt .f64 y)] w fun e w' => ∃ v, e = .returned v ∧ R v w') :
    Calls Tryz.prog 205 #[.iface 79 (.float .f64 x), .iface 3 (.int .i64 y), g1, .func (.func f) #[] #[], g2, g3, g4, g5, g6] w fun e w' => ∃ v, e = .returned v ∧ R v w' := by
  unfold Enters at he
  go_enter Tryz.func205, Tryz.ntmps205
  go_wp2_with fail
  refine h.mono ?_
  rintro e w' ⟨v, rfl, hR⟩
  go_wp2
  go_ret
  exact ⟨_, rfl, hR⟩
set_option maxRecDepth 100000 in
set_option maxHeartbeats 400000 in
theorem sx_ff (f : Nat) (he : Enters f) (x y : Nat) (g1 g2 g3 g4 g5 g6 : Value) (w : World) (R : Value → World → Prop)
    (h : Calls Tryz.prog f #[.float .f64 x, .float .f64 y] w fun e w' => ∃ v, e = .returned v ∧ R v w') :
    Calls Tryz.prog 205 #[.iface 79 (.float .f64 x), .iface 79 (.float .f64 y), g1, .func (.func f) #[] #[], g2, g3, g4, g5, g6] w fun e w' => ∃ v, e = .returned v ∧ R v w' := by
  unfold Enters at he
  go_enter Tryz.func205, Tryz.ntmps205
  go_wp2_with fail
  refine h.mono ?_
  rintro e w' ⟨v, rfl, hR⟩
  go_wp2
  go_ret
  exact ⟨_, rfl, hR⟩
set_option maxRecDepth 100000 in
set_option maxHeartbeats 400000 in
theorem sx_ss (f : Nat) (he : Enters f) (x y : ByteArray) (g1 g2 g3 g4 g5 g6 : Value) (w : World) (R : Value → World → Prop)
    (h : Calls Tryz.prog f #[.string x, .string y] w fun e w' => ∃ v, e = .returned v ∧ R v w') :
    Calls Tryz.prog 205 #[.iface 9 (.string x), .iface 9 (.string y), g1, g2, g3, .func (.func f) #[] #[], g4, g5, g6] w fun e w' => ∃ v, e = .returned v ∧ R v w' := by
  unfold Enters at he
  go_enter Tryz.func205, Tryz.ntmps205
  go_wp2_with fail
  refine h.mono ?_
  rintro e w' ⟨v, rfl, hR⟩
  go_wp2
  go_ret
  exact ⟨_, rfl, hR⟩
set_option maxRecDepth 100000 in
set_option maxHeartbeats 400000 in
theorem sx_ll (f : Nat) (he : Enters f) (A B : Option Addr) (n m n' m' : Nat) (g1 g2 g3 g4 g5 g6 : Value) (w : World) (R : Value → World → Prop)
    (h : Calls Tryz.prog f #[.slice A n m, .slice B n' m'] w fun e w' => ∃ v, e = .returned v ∧ R v w') :
    Calls Tryz.prog 205 #[.iface 80 (.slice A n m), .iface 80 (.slice B n' m'), g1, g2, g3, g4, .func (.func f) #[] #[], g5, g6] w fun e w' => ∃ v, e = .returned v ∧ R v w' := by
  unfold Enters at he
  go_enter Tryz.func205, Tryz.ntmps205
  go_wp2_with fail
  refine h.mono ?_
  rintro e w' ⟨v, rfl, hR⟩
  go_wp2
  go_ret
  exact ⟨_, rfl, hR⟩
set_option maxRecDepth 100000 in
set_option maxHeartbeats 400000 in
theorem sx_mm (f : Nat) (he : Enters f) (x y : Option Nat) (g1 g2 g3 g4 g5 g6 : Value) (w : World) (R : Value → World → Prop)
    (h : Calls Tryz.prog f #[.map x, .map y] w fun e w' => ∃ v, e = .returned v ∧ R v w') :
    Calls Tryz.prog 205 #[.iface 83 (.map x), .iface 83 (.map y), g1, g2, g3, g4, g5, .func (.func f) #[] #[], g6] w fun e w' => ∃ v, e = .returned v ∧ R v w' := by
  unfold Enters at he
  go_enter Tryz.func205, Tryz.ntmps205
  go_wp2_with fail
  refine h.mono ?_
  rintro e w' ⟨v, rfl, hR⟩
  go_wp2
  go_ret
  exact ⟨_, rfl, hR⟩

set_option maxRecDepth 100000 in
set_option maxHeartbeats 4000000 in
theorem sx_fall (f : Nat) (he : Enters f) (l r : Value) (i j : Nat) (hl : Shp l i) (hr : Shp r j) (hij : i ≠ j ∨ i ≤ 1) (g1 g2 g3 g4 g5 g6 : Value) (w : World) (R : Value → World → Prop)
    (h : Calls Tryz.prog f #[l, r] w fun e w' => ∃ v, e = .returned v ∧ R v w') :
    Calls Tryz.prog 205 #[l, r, g1, g2, g3, g4, g5, g6, .func (.func f) #[] #[]] w fun e w' => ∃ v, e = .returned v ∧ R v w' := by
  unfold Enters at he
  cases hl <;> cases hr
  all_goals first
    | (exfalso; omega)
    | (clear hij
       go_enter Tryz.func205, Tryz.ntmps205
       go_wp2_with fail
       refine h.mono ?_
       rintro e w' ⟨v, rfl, hR⟩
       go_wp2
       go_ret
       exact ⟨_, rfl, hR⟩)
end Go.Proofs.YtmjegeipnaalnaaGreatDoor
