/- When two values of Go's type any are equal, as closed facts. -/
import Derived.Test.YtmjegeipnaalnaaGreatDoorGrFacts
namespace Go.Proofs.YtmjegeipnaalnaaGreatDoor
@[go_sem] theorem eq_nil_nil (w : World) : (binOp .eql 20 (.nilIface) (.nilIface)).run Tryz.prog w = .ok (.bool true) w := by kernel_rfl
@[go_sem] theorem eq_nil_bool (b : Bool) (w : World) : (binOp .eql 20 (.nilIface) (.iface 4 (.bool b))).run Tryz.prog w = .ok (.bool false) w := by kernel_rfl
@[go_sem] theorem ne_nil_bool (b : Bool) (w : World) : (binOp .neq 20 (.nilIface) (.iface 4 (.bool b))).run Tryz.prog w = .ok (.bool (!false)) w := by kernel_rfl
@[go_sem] theorem eq_nil_int (b : Int) (w : World) : (binOp .eql 20 (.nilIface) (.iface 3 (.int .i64 b))).run Tryz.prog w = .ok (.bool false) w := by kernel_rfl
@[go_sem] theorem eq_nil_flo (b : Nat) (w : World) : (binOp .eql 20 (.nilIface) (.iface 79 (.float .f64 b))).run Tryz.prog w = .ok (.bool false) w := by kernel_rfl
@[go_sem] theorem eq_nil_str (b : ByteArray) (w : World) : (binOp .eql 20 (.nilIface) (.iface 9 (.string b))).run Tryz.prog w = .ok (.bool false) w := by kernel_rfl
@[go_sem] theorem eq_nil_lst (b : Value) (w : World) : (binOp .eql 20 (.nilIface) (.iface 80 b)).run Tryz.prog w = .ok (.bool false) w := by kernel_rfl
@[go_sem] theorem eq_nil_mp (b : Value) (w : World) : (binOp .eql 20 (.nilIface) (.iface 83 b)).run Tryz.prog w = .ok (.bool false) w := by kernel_rfl
@[go_sem] theorem eq_bool_nil (a : Bool) (w : World) : (binOp .eql 20 (.iface 4 (.bool a)) (.nilIface)).run Tryz.prog w = .ok (.bool false) w := by kernel_rfl
@[go_sem] theorem eq_bool_bool (a : Bool) (b : Bool) (w : World) : (binOp .eql 20 (.iface 4 (.bool a)) (.iface 4 (.bool b))).run Tryz.prog w = .ok (.bool (a == b)) w := by kernel_rfl
@[go_sem] theorem ne_bool_bool (a : Bool) (b : Bool) (w : World) : (binOp .neq 20 (.iface 4 (.bool a)) (.iface 4 (.bool b))).run Tryz.prog w = .ok (.bool (!(a == b))) w := by kernel_rfl
@[go_sem] theorem eq_bool_int (a : Bool) (b : Int) (w : World) : (binOp .eql 20 (.iface 4 (.bool a)) (.iface 3 (.int .i64 b))).run Tryz.prog w = .ok (.bool false) w := by kernel_rfl
@[go_sem] theorem eq_bool_flo (a : Bool) (b : Nat) (w : World) : (binOp .eql 20 (.iface 4 (.bool a)) (.iface 79 (.float .f64 b))).run Tryz.prog w = .ok (.bool false) w := by kernel_rfl
@[go_sem] theorem eq_bool_str (a : Bool) (b : ByteArray) (w : World) : (binOp .eql 20 (.iface 4 (.bool a)) (.iface 9 (.string b))).run Tryz.prog w = .ok (.bool false) w := by kernel_rfl
@[go_sem] theorem eq_bool_lst (a : Bool) (b : Value) (w : World) : (binOp .eql 20 (.iface 4 (.bool a)) (.iface 80 b)).run Tryz.prog w = .ok (.bool false) w := by kernel_rfl
@[go_sem] theorem eq_bool_mp (a : Bool) (b : Value) (w : World) : (binOp .eql 20 (.iface 4 (.bool a)) (.iface 83 b)).run Tryz.prog w = .ok (.bool false) w := by kernel_rfl
@[go_sem] theorem eq_int_nil (a : Int) (w : World) : (binOp .eql 20 (.iface 3 (.int .i64 a)) (.nilIface)).run Tryz.prog w = .ok (.bool false) w := by kernel_rfl
@[go_sem] theorem eq_int_bool (a : Int) (b : Bool) (w : World) : (binOp .eql 20 (.iface 3 (.int .i64 a)) (.iface 4 (.bool b))).run Tryz.prog w = .ok (.bool false) w := by kernel_rfl
@[go_sem] theorem ne_int_bool (a : Int) (b : Bool) (w : World) : (binOp .neq 20 (.iface 3 (.int .i64 a)) (.iface 4 (.bool b))).run Tryz.prog w = .ok (.bool (!false)) w := by kernel_rfl
@[go_sem] theorem eq_int_flo (a : Int) (b : Nat) (w : World) : (binOp .eql 20 (.iface 3 (.int .i64 a)) (.iface 79 (.float .f64 b))).run Tryz.prog w = .ok (.bool false) w := by kernel_rfl
@[go_sem] theorem eq_int_str (a : Int) (b : ByteArray) (w : World) : (binOp .eql 20 (.iface 3 (.int .i64 a)) (.iface 9 (.string b))).run Tryz.prog w = .ok (.bool false) w := by kernel_rfl
@[go_sem] theorem eq_int_lst (a : Int) (b : Value) (w : World) : (binOp .eql 20 (.iface 3 (.int .i64 a)) (.iface 80 b)).run Tryz.prog w = .ok (.bool false) w := by kernel_rfl
@[go_sem] theorem eq_int_mp (a : Int) (b : Value) (w : World) : (binOp .eql 20 (.iface 3 (.int .i64 a)) (.iface 83 b)).run Tryz.prog w = .ok (.bool false) w := by kernel_rfl
@[go_sem] theorem eq_flo_nil (a : Nat) (w : World) : (binOp .eql 20 (.iface 79 (.float .f64 a)) (.nilIface)).run Tryz.prog w = .ok (.bool false) w := by kernel_rfl
@[go_sem] theorem eq_flo_bool (a : Nat) (b : Bool) (w : World) : (binOp .eql 20 (.iface 79 (.float .f64 a)) (.iface 4 (.bool b))).run Tryz.prog w = .ok (.bool false) w := by kernel_rfl
@[go_sem] theorem ne_flo_bool (a : Nat) (b : Bool) (w : World) : (binOp .neq 20 (.iface 79 (.float .f64 a)) (.iface 4 (.bool b))).run Tryz.prog w = .ok (.bool (!false)) w := by kernel_rfl
@[go_sem] theorem eq_flo_int (a : Nat) (b : Int) (w : World) : (binOp .eql 20 (.iface 79 (.float .f64 a)) (.iface 3 (.int .i64 b))).run Tryz.prog w = .ok (.bool false) w := by kernel_rfl
@[go_sem] theorem eq_flo_str (a : Nat) (b : ByteArray) (w : World) : (binOp .eql 20 (.iface 79 (.float .f64 a)) (.iface 9 (.string b))).run Tryz.prog w = .ok (.bool false) w := by kernel_rfl
@[go_sem] theorem eq_flo_lst (a : Nat) (b : Value) (w : World) : (binOp .eql 20 (.iface 79 (.float .f64 a)) (.iface 80 b)).run Tryz.prog w = .ok (.bool false) w := by kernel_rfl
@[go_sem] theorem eq_flo_mp (a : Nat) (b : Value) (w : World) : (binOp .eql 20 (.iface 79 (.float .f64 a)) (.iface 83 b)).run Tryz.prog w = .ok (.bool false) w := by kernel_rfl
@[go_sem] theorem eq_str_nil (a : ByteArray) (w : World) : (binOp .eql 20 (.iface 9 (.string a)) (.nilIface)).run Tryz.prog w = .ok (.bool false) w := by kernel_rfl
@[go_sem] theorem eq_str_bool (a : ByteArray) (b : Bool) (w : World) : (binOp .eql 20 (.iface 9 (.string a)) (.iface 4 (.bool b))).run Tryz.prog w = .ok (.bool false) w := by kernel_rfl
@[go_sem] theorem ne_str_bool (a : ByteArray) (b : Bool) (w : World) : (binOp .neq 20 (.iface 9 (.string a)) (.iface 4 (.bool b))).run Tryz.prog w = .ok (.bool (!false)) w := by kernel_rfl
@[go_sem] theorem eq_str_int (a : ByteArray) (b : Int) (w : World) : (binOp .eql 20 (.iface 9 (.string a)) (.iface 3 (.int .i64 b))).run Tryz.prog w = .ok (.bool false) w := by kernel_rfl
@[go_sem] theorem eq_str_flo (a : ByteArray) (b : Nat) (w : World) : (binOp .eql 20 (.iface 9 (.string a)) (.iface 79 (.float .f64 b))).run Tryz.prog w = .ok (.bool false) w := by kernel_rfl
@[go_sem] theorem eq_str_lst (a : ByteArray) (b : Value) (w : World) : (binOp .eql 20 (.iface 9 (.string a)) (.iface 80 b)).run Tryz.prog w = .ok (.bool false) w := by kernel_rfl
@[go_sem] theorem eq_str_mp (a : ByteArray) (b : Value) (w : World) : (binOp .eql 20 (.iface 9 (.string a)) (.iface 83 b)).run Tryz.prog w = .ok (.bool false) w := by kernel_rfl
@[go_sem] theorem eq_lst_nil (a : Value) (w : World) : (binOp .eql 20 (.iface 80 a) (.nilIface)).run Tryz.prog w = .ok (.bool false) w := by kernel_rfl
@[go_sem] theorem eq_lst_bool (a : Value) (b : Bool) (w : World) : (binOp .eql 20 (.iface 80 a) (.iface 4 (.bool b))).run Tryz.prog w = .ok (.bool false) w := by kernel_rfl
@[go_sem] theorem ne_lst_bool (a : Value) (b : Bool) (w : World) : (binOp .neq 20 (.iface 80 a) (.iface 4 (.bool b))).run Tryz.prog w = .ok (.bool (!false)) w := by kernel_rfl
@[go_sem] theorem eq_lst_int (a : Value) (b : Int) (w : World) : (binOp .eql 20 (.iface 80 a) (.iface 3 (.int .i64 b))).run Tryz.prog w = .ok (.bool false) w := by kernel_rfl
@[go_sem] theorem eq_lst_flo (a : Value) (b : Nat) (w : World) : (binOp .eql 20 (.iface 80 a) (.iface 79 (.float .f64 b))).run Tryz.prog w = .ok (.bool false) w := by kernel_rfl
@[go_sem] theorem eq_lst_str (a : Value) (b : ByteArray) (w : World) : (binOp .eql 20 (.iface 80 a) (.iface 9 (.string b))).run Tryz.prog w = .ok (.bool false) w := by kernel_rfl
@[go_sem] theorem eq_lst_mp (a : Value) (b : Value) (w : World) : (binOp .eql 20 (.iface 80 a) (.iface 83 b)).run Tryz.prog w = .ok (.bool false) w := by kernel_rfl
@[go_sem] theorem eq_mp_nil (a : Value) (w : World) : (binOp .eql 20 (.iface 83 a) (.nilIface)).run Tryz.prog w = .ok (.bool false) w := by kernel_rfl
@[go_sem] theorem eq_mp_bool (a : Value) (b : Bool) (w : World) : (binOp .eql 20 (.iface 83 a) (.iface 4 (.bool b))).run Tryz.prog w = .ok (.bool false) w := by kernel_rfl
@[go_sem] theorem ne_mp_bool (a : Value) (b : Bool) (w : World) : (binOp .neq 20 (.iface 83 a) (.iface 4 (.bool b))).run Tryz.prog w = .ok (.bool (!false)) w := by kernel_rfl
@[go_sem] theorem eq_mp_int (a : Value) (b : Int) (w : World) : (binOp .eql 20 (.iface 83 a) (.iface 3 (.int .i64 b))).run Tryz.prog w = .ok (.bool false) w := by kernel_rfl
@[go_sem] theorem eq_mp_flo (a : Value) (b : Nat) (w : World) : (binOp .eql 20 (.iface 83 a) (.iface 79 (.float .f64 b))).run Tryz.prog w = .ok (.bool false) w := by kernel_rfl
@[go_sem] theorem eq_mp_str (a : Value) (b : ByteArray) (w : World) : (binOp .eql 20 (.iface 83 a) (.iface 9 (.string b))).run Tryz.prog w = .ok (.bool false) w := by kernel_rfl
@[go_sem] theorem eq_mp_lst (a : Value) (b : Value) (w : World) : (binOp .eql 20 (.iface 83 a) (.iface 80 b)).run Tryz.prog w = .ok (.bool false) w := by kernel_rfl
end Go.Proofs.YtmjegeipnaalnaaGreatDoor
