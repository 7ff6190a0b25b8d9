/- Closed facts for setting at a path: no value of JSON is the empty struct; errors are not nil, and are errors. -/
import Derived.Test.YtmjegeipnaalnaaGreatDoorGrEqs
namespace Go.Proofs.YtmjegeipnaalnaaGreatDoor
@[go_sem] theorem eq_nil_struct (w : World) : (binOp .eql 20 (.nilIface) (.iface 198 (.agg #[]))).run Tryz.prog w = .ok (.bool false) w := by kernel_rfl
@[go_sem] theorem as_nil_198 (w : World) : (Instr.typeAssert (.nilIface) 20 198 true).run Tryz.prog w = .ok (.tuple #[.agg #[], .bool false]) w := by kernel_rfl
@[go_sem] theorem eq_bool_struct (a : Bool) (w : World) : (binOp .eql 20 (.iface 4 (.bool a)) (.iface 198 (.agg #[]))).run Tryz.prog w = .ok (.bool false) w := by kernel_rfl
@[go_sem] theorem as_bool_198 (a : Bool) (w : World) : (Instr.typeAssert (.iface 4 (.bool a)) 20 198 true).run Tryz.prog w = .ok (.tuple #[.agg #[], .bool false]) w := by kernel_rfl
@[go_sem] theorem eq_int_struct (a : Int) (w : World) : (binOp .eql 20 (.iface 3 (.int .i64 a)) (.iface 198 (.agg #[]))).run Tryz.prog w = .ok (.bool false) w := by kernel_rfl
@[go_sem] theorem as_int_198 (a : Int) (w : World) : (Instr.typeAssert (.iface 3 (.int .i64 a)) 20 198 true).run Tryz.prog w = .ok (.tuple #[.agg #[], .bool false]) w := by kernel_rfl
@[go_sem] theorem eq_flo_struct (a : Nat) (w : World) : (binOp .eql 20 (.iface 79 (.float .f64 a)) (.iface 198 (.agg #[]))).run Tryz.prog w = .ok (.bool false) w := by kernel_rfl
@[go_sem] theorem as_flo_198 (a : Nat) (w : World) : (Instr.typeAssert (.iface 79 (.float .f64 a)) 20 198 true).run Tryz.prog w = .ok (.tuple #[.agg #[], .bool false]) w := by kernel_rfl
@[go_sem] theorem eq_str_struct (a : ByteArray) (w : World) : (binOp .eql 20 (.iface 9 (.string a)) (.iface 198 (.agg #[]))).run Tryz.prog w = .ok (.bool false) w := by kernel_rfl
@[go_sem] theorem as_str_198 (a : ByteArray) (w : World) : (Instr.typeAssert (.iface 9 (.string a)) 20 198 true).run Tryz.prog w = .ok (.tuple #[.agg #[], .bool false]) w := by kernel_rfl
@[go_sem] theorem eq_lst_struct (a : Value) (w : World) : (binOp .eql 20 (.iface 80 a) (.iface 198 (.agg #[]))).run Tryz.prog w = .ok (.bool false) w := by kernel_rfl
@[go_sem] theorem as_lst_198 (a : Value) (w : World) : (Instr.typeAssert (.iface 80 a) 20 198 true).run Tryz.prog w = .ok (.tuple #[.agg #[], .bool false]) w := by kernel_rfl
@[go_sem] theorem eq_mp_struct (a : Value) (w : World) : (binOp .eql 20 (.iface 83 a) (.iface 198 (.agg #[]))).run Tryz.prog w = .ok (.bool false) w := by kernel_rfl
@[go_sem] theorem as_mp_198 (a : Value) (w : World) : (Instr.typeAssert (.iface 83 a) 20 198 true).run Tryz.prog w = .ok (.tuple #[.agg #[], .bool false]) w := by kernel_rfl
@[go_sem] theorem ne_230_nil (a : Option Addr) (w : World) : (binOp .neq 87 (.iface 230 (.pointer a)) .nilIface).run Tryz.prog w = .ok (.bool true) w := by kernel_rfl
@[go_sem] theorem as_230_87 (a : Option Addr) (w : World) : (Instr.typeAssert (.iface 230 (.pointer a)) 20 87 true).run Tryz.prog w = .ok (.tuple #[.iface 230 (.pointer a), .bool true]) w := by kernel_rfl
@[go_sem] theorem ne_236_nil (a : Option Addr) (w : World) : (binOp .neq 87 (.iface 236 (.pointer a)) .nilIface).run Tryz.prog w = .ok (.bool true) w := by kernel_rfl
@[go_sem] theorem as_236_87 (a : Option Addr) (w : World) : (Instr.typeAssert (.iface 236 (.pointer a)) 20 87 true).run Tryz.prog w = .ok (.tuple #[.iface 236 (.pointer a), .bool true]) w := by kernel_rfl
@[go_sem] theorem ne_227_nil (a : Option Addr) (w : World) : (binOp .neq 87 (.iface 227 (.pointer a)) .nilIface).run Tryz.prog w = .ok (.bool true) w := by kernel_rfl
@[go_sem] theorem as_227_87 (a : Option Addr) (w : World) : (Instr.typeAssert (.iface 227 (.pointer a)) 20 87 true).run Tryz.prog w = .ok (.tuple #[.iface 227 (.pointer a), .bool true]) w := by kernel_rfl
@[go_sem] theorem ne_137_nil (a : Option Addr) (w : World) : (binOp .neq 87 (.iface 137 (.pointer a)) .nilIface).run Tryz.prog w = .ok (.bool true) w := by kernel_rfl
@[go_sem] theorem as_137_87 (a : Option Addr) (w : World) : (Instr.typeAssert (.iface 137 (.pointer a)) 20 87 true).run Tryz.prog w = .ok (.tuple #[.iface 137 (.pointer a), .bool true]) w := by kernel_rfl
@[go_sem] theorem ne_nil_nil (w : World) : (binOp .neq 87 .nilIface .nilIface).run Tryz.prog w = .ok (.bool false) w := by kernel_rfl
end Go.Proofs.YtmjegeipnaalnaaGreatDoor
