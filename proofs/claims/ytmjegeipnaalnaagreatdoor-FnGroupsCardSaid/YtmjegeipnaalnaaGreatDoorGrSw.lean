/- The package's switch over the types of two operands: which of its functions is called. -/
import Derived.Test.YtmjegeipnaalnaaGreatDoorGrInt
import Derived.Test.YtmjegeipnaalnaaGreatDoorGrEqs
import Derived.Test.YtmjegeipnaalnaaGreatDoorGrFlo
namespace Go.Proofs.YtmjegeipnaalnaaGreatDoor
open Go.RowKit

/-- A function's number that a call enters as such. -/
def Enters (f : Nat) : Prop := ∀ args w, (callFunc f args).run Tryz.prog w = .ok (.enter f args) w

set_option maxRecDepth 100000 in
set_option maxHeartbeats 400000 in
theorem sw_if (f : Nat) (he : Enters f) (x : Int) (y : Nat) (g1 g2 g3 g4 g5 g6 : Value) (w : World) (R : Value → World → Prop)
    (h : Calls Tryz.prog f #[.float .f64 (floatOfInt .f64 x), .float .f64 y] w fun e w' => ∃ v, e = .returned v ∧ R v w') :
    Calls Tryz.prog 132 #[.iface 3 (.int .i64 x), .iface 79 (.float .f64 y), g1, .func (.func f) #[] #[], g2, g3, g4, g5, g6] w fun e w' => ∃ v, e = .returned v ∧ R v w' := by
  unfold Enters at he
  go_enter Tryz.func132, Tryz.ntmps132
  go_wp2_with fail
  refine h.mono ?_
  rintro e w' ⟨v, rfl, hR⟩
  go_wp2
  go_ret
  exact ⟨_, rfl, hR⟩
set_option maxRecDepth 100000 in
set_option maxHeartbeats 400000 in
theorem sw_fi (f : Nat) (he : Enters f) (x : Nat) (y : Int) (g1 g2 g3 g4 g5 g6 : Value) (w : World) (R : Value → World → Prop)
    (h : Calls Tryz.prog f #[.float .f64 x, .float .f64 (floatOfInt .f64 y)] w fun e w' => ∃ v, e = .returned v ∧ R v w') :
    Calls Tryz.prog 132 #[.iface 79 (.float .f64 x), .iface 3 (.int .i64 y), g1, .func (.func f) #[] #[], g2, g3, g4, g5, g6] w fun e w' => ∃ v, e = .returned v ∧ R v w' := by
  unfold Enters at he
  go_enter Tryz.func132, Tryz.ntmps132
  go_wp2_with fail
  refine h.mono ?_
  rintro e w' ⟨v, rfl, hR⟩
  go_wp2
  go_ret
  exact ⟨_, rfl, hR⟩
set_option maxRecDepth 100000 in
set_option maxHeartbeats 400000 in
theorem sw_ff (f : Nat) (he : Enters f) (x y : Nat) (g1 g2 g3 g4 g5 g6 : Value) (w : World) (R : Value → World → Prop)
    (h : Calls Tryz.prog f #[.float .f64 x, .float .f64 y] w fun e w' => ∃ v, e = .returned v ∧ R v w') :
    Calls Tryz.prog 132 #[.iface 79 (.float .f64 x), .iface 79 (.float .f64 y), g1, .func (.func f) #[] #[], g2, g3, g4, g5, g6] w fun e w' => ∃ v, e = .returned v ∧ R v w' := by
  unfold Enters at he
  go_enter Tryz.func132, Tryz.ntmps132
  go_wp2_with fail
  refine h.mono ?_
  rintro e w' ⟨v, rfl, hR⟩
  go_wp2
  go_ret
  exact ⟨_, rfl, hR⟩
set_option maxRecDepth 100000 in
set_option maxHeartbeats 400000 in
theorem sw_ss (f : Nat) (he : Enters f) (x y : ByteArray) (g1 g2 g3 g4 g5 g6 : Value) (w : World) (R : Value → World → Prop)
    (h : Calls Tryz.prog f #[.string x, .string y] w fun e w' => ∃ v, e = .returned v ∧ R v w') :
    Calls Tryz.prog 132 #[.iface 9 (.string x), .iface 9 (.string y), g1, g2, g3, .func (.func f) #[] #[], g4, g5, g6] w fun e w' => ∃ v, e = .returned v ∧ R v w' := by
  unfold Enters at he
  go_enter Tryz.func132, Tryz.ntmps132
  go_wp2_with fail
  refine h.mono ?_
  rintro e w' ⟨v, rfl, hR⟩
  go_wp2
  go_ret
  exact ⟨_, rfl, hR⟩
set_option maxRecDepth 100000 in
set_option maxHeartbeats 400000 in
theorem sw_ll (f : Nat) (he : Enters f) (A B : Option Addr) (n m n' m' : Nat) (g1 g2 g3 g4 g5 g6 : Value) (w : World) (R : Value → World → Prop)
    (h : Calls Tryz.prog f #[.slice A n m, .slice B n' m'] w fun e w' => ∃ v, e = .returned v ∧ R v w') :
    Calls Tryz.prog 132 #[.iface 80 (.slice A n m), .iface 80 (.slice B n' m'), g1, g2, g3, g4, .func (.func f) #[] #[], g5, g6] w fun e w' => ∃ v, e = .returned v ∧ R v w' := by
  unfold Enters at he
  go_enter Tryz.func132, Tryz.ntmps132
  go_wp2_with fail
  refine h.mono ?_
  rintro e w' ⟨v, rfl, hR⟩
  go_wp2
  go_ret
  exact ⟨_, rfl, hR⟩
set_option maxRecDepth 100000 in
set_option maxHeartbeats 400000 in
theorem sw_mm (f : Nat) (he : Enters f) (x y : Option Nat) (g1 g2 g3 g4 g5 g6 : Value) (w : World) (R : Value → World → Prop)
    (h : Calls Tryz.prog f #[.map x, .map y] w fun e w' => ∃ v, e = .returned v ∧ R v w') :
    Calls Tryz.prog 132 #[.iface 83 (.map x), .iface 83 (.map y), g1, g2, g3, g4, g5, .func (.func f) #[] #[], g6] w fun e w' => ∃ v, e = .returned v ∧ R v w' := by
  unfold Enters at he
  go_enter Tryz.func132, Tryz.ntmps132
  go_wp2_with fail
  refine h.mono ?_
  rintro e w' ⟨v, rfl, hR⟩
  go_wp2
  go_ret
  exact ⟨_, rfl, hR⟩

/-- The shapes of values of type any that stand for values of JSON, each with its class. -/
inductive Shp : Value → Nat → Prop
  | nil : Shp .nilIface 0
  | bool (b : Bool) : Shp (.iface 4 (.bool b)) 1
  | int (n : Int) : Shp (.iface 3 (.int .i64 n)) 2
  | flo (n : Nat) : Shp (.iface 79 (.float .f64 n)) 2
  | str (s : ByteArray) : Shp (.iface 9 (.string s)) 3
  | lst (A : Option Addr) (n m : Nat) : Shp (.iface 80 (.slice A n m)) 4
  | mp (A : Option Nat) : Shp (.iface 83 (.map A)) 5

set_option maxRecDepth 100000 in
set_option maxHeartbeats 4000000 in
theorem sw_fall (f : Nat) (he : Enters f) (l r : Value) (i j : Nat) (hl : Shp l i) (hr : Shp r j) (hij : i ≠ j ∨ i ≤ 1) (g1 g2 g3 g4 g5 g6 : Value) (w : World) (R : Value → World → Prop)
    (h : Calls Tryz.prog f #[l, r] w fun e w' => ∃ v, e = .returned v ∧ R v w') :
    Calls Tryz.prog 132 #[l, r, g1, g2, g3, g4, g5, g6, .func (.func f) #[] #[]] w fun e w' => ∃ v, e = .returned v ∧ R v w' := by
  unfold Enters at he
  cases hl <;> cases hr
  all_goals first
    | (exfalso; omega)
    | (clear hij
       go_enter Tryz.func132, Tryz.ntmps132
       go_wp2_with fail
       refine h.mono ?_
       rintro e w' ⟨v, rfl, hR⟩
       go_wp2
       go_ret
       exact ⟨_, rfl, hR⟩)
end Go.Proofs.YtmjegeipnaalnaaGreatDoor
