/- Type assertions on the interface values of JSON, as closed facts. -/
import Derived.Test.YtmjegeipnaalnaaGreatDoorProg
import Derived.WalkKit
import Derived.WalkSpells
import Derived.WalkLawsBesides
import Derived.KernelRfl
import Derived.Stop.Asserts
namespace Go.Proofs.YtmjegeipnaalnaaGreatDoor
@[go_sem] theorem as_nil_3  (w : World) : (Instr.typeAssert .nilIface 20 3 true).run Tryz.prog w = .ok (.tuple #[.int .i64 0, .bool false]) w := by kernel_rfl
@[go_sem] theorem as_nil_4  (w : World) : (Instr.typeAssert .nilIface 20 4 true).run Tryz.prog w = .ok (.tuple #[.bool false, .bool false]) w := by kernel_rfl
@[go_sem] theorem as_nil_9  (w : World) : (Instr.typeAssert .nilIface 20 9 true).run Tryz.prog w = .ok (.tuple #[.string ByteArray.empty, .bool false]) w := by kernel_rfl
@[go_sem] theorem as_nil_79  (w : World) : (Instr.typeAssert .nilIface 20 79 true).run Tryz.prog w = .ok (.tuple #[.float .f64 0, .bool false]) w := by kernel_rfl
@[go_sem] theorem as_nil_80  (w : World) : (Instr.typeAssert .nilIface 20 80 true).run Tryz.prog w = .ok (.tuple #[.slice none 0 0, .bool false]) w := by kernel_rfl
@[go_sem] theorem as_nil_83  (w : World) : (Instr.typeAssert .nilIface 20 83 true).run Tryz.prog w = .ok (.tuple #[.map none, .bool false]) w := by kernel_rfl
@[go_sem] theorem as_nil_189  (w : World) : (Instr.typeAssert .nilIface 20 189 true).run Tryz.prog w = .ok (.tuple #[.string ByteArray.empty, .bool false]) w := by kernel_rfl
@[go_sem] theorem as_nil_130  (w : World) : (Instr.typeAssert .nilIface 20 130 true).run Tryz.prog w = .ok (.tuple #[.pointer none, .bool false]) w := by kernel_rfl
@[go_sem] theorem as_nil_87  (w : World) : (Instr.typeAssert .nilIface 20 87 true).run Tryz.prog w = .ok (.tuple #[.nilIface, .bool false]) w := by kernel_rfl
@[go_sem] theorem as_int_3 (n : Int) (w : World) : (Instr.typeAssert (.iface 3 (.int .i64 n)) 20 3 true).run Tryz.prog w = .ok (.tuple #[.int .i64 n, .bool true]) w := by kernel_rfl
@[go_sem] theorem as_int_4 (n : Int) (w : World) : (Instr.typeAssert (.iface 3 (.int .i64 n)) 20 4 true).run Tryz.prog w = .ok (.tuple #[.bool false, .bool false]) w := by kernel_rfl
@[go_sem] theorem as_int_9 (n : Int) (w : World) : (Instr.typeAssert (.iface 3 (.int .i64 n)) 20 9 true).run Tryz.prog w = .ok (.tuple #[.string ByteArray.empty, .bool false]) w := by kernel_rfl
@[go_sem] theorem as_int_79 (n : Int) (w : World) : (Instr.typeAssert (.iface 3 (.int .i64 n)) 20 79 true).run Tryz.prog w = .ok (.tuple #[.float .f64 0, .bool false]) w := by kernel_rfl
@[go_sem] theorem as_int_80 (n : Int) (w : World) : (Instr.typeAssert (.iface 3 (.int .i64 n)) 20 80 true).run Tryz.prog w = .ok (.tuple #[.slice none 0 0, .bool false]) w := by kernel_rfl
@[go_sem] theorem as_int_83 (n : Int) (w : World) : (Instr.typeAssert (.iface 3 (.int .i64 n)) 20 83 true).run Tryz.prog w = .ok (.tuple #[.map none, .bool false]) w := by kernel_rfl
@[go_sem] theorem as_int_189 (n : Int) (w : World) : (Instr.typeAssert (.iface 3 (.int .i64 n)) 20 189 true).run Tryz.prog w = .ok (.tuple #[.string ByteArray.empty, .bool false]) w := by kernel_rfl
@[go_sem] theorem as_int_130 (n : Int) (w : World) : (Instr.typeAssert (.iface 3 (.int .i64 n)) 20 130 true).run Tryz.prog w = .ok (.tuple #[.pointer none, .bool false]) w := by kernel_rfl
@[go_sem] theorem as_int_87 (n : Int) (w : World) : (Instr.typeAssert (.iface 3 (.int .i64 n)) 20 87 true).run Tryz.prog w = .ok (.tuple #[.nilIface, .bool false]) w := run_typeAssert_lacksB Tryz.underlying87 (by kernel_rfl) (by kernel_rfl) _ 20 w
@[go_sem] theorem as_bool_3 (b : Bool) (w : World) : (Instr.typeAssert (.iface 4 (.bool b)) 20 3 true).run Tryz.prog w = .ok (.tuple #[.int .i64 0, .bool false]) w := by kernel_rfl
@[go_sem] theorem as_bool_4 (b : Bool) (w : World) : (Instr.typeAssert (.iface 4 (.bool b)) 20 4 true).run Tryz.prog w = .ok (.tuple #[.bool b, .bool true]) w := by kernel_rfl
@[go_sem] theorem as_bool_9 (b : Bool) (w : World) : (Instr.typeAssert (.iface 4 (.bool b)) 20 9 true).run Tryz.prog w = .ok (.tuple #[.string ByteArray.empty, .bool false]) w := by kernel_rfl
@[go_sem] theorem as_bool_79 (b : Bool) (w : World) : (Instr.typeAssert (.iface 4 (.bool b)) 20 79 true).run Tryz.prog w = .ok (.tuple #[.float .f64 0, .bool false]) w := by kernel_rfl
@[go_sem] theorem as_bool_80 (b : Bool) (w : World) : (Instr.typeAssert (.iface 4 (.bool b)) 20 80 true).run Tryz.prog w = .ok (.tuple #[.slice none 0 0, .bool false]) w := by kernel_rfl
@[go_sem] theorem as_bool_83 (b : Bool) (w : World) : (Instr.typeAssert (.iface 4 (.bool b)) 20 83 true).run Tryz.prog w = .ok (.tuple #[.map none, .bool false]) w := by kernel_rfl
@[go_sem] theorem as_bool_189 (b : Bool) (w : World) : (Instr.typeAssert (.iface 4 (.bool b)) 20 189 true).run Tryz.prog w = .ok (.tuple #[.string ByteArray.empty, .bool false]) w := by kernel_rfl
@[go_sem] theorem as_bool_130 (b : Bool) (w : World) : (Instr.typeAssert (.iface 4 (.bool b)) 20 130 true).run Tryz.prog w = .ok (.tuple #[.pointer none, .bool false]) w := by kernel_rfl
@[go_sem] theorem as_bool_87 (b : Bool) (w : World) : (Instr.typeAssert (.iface 4 (.bool b)) 20 87 true).run Tryz.prog w = .ok (.tuple #[.nilIface, .bool false]) w := run_typeAssert_lacksB Tryz.underlying87 (by kernel_rfl) (by kernel_rfl) _ 20 w
@[go_sem] theorem as_str_3 (s : ByteArray) (w : World) : (Instr.typeAssert (.iface 9 (.string s)) 20 3 true).run Tryz.prog w = .ok (.tuple #[.int .i64 0, .bool false]) w := by kernel_rfl
@[go_sem] theorem as_str_4 (s : ByteArray) (w : World) : (Instr.typeAssert (.iface 9 (.string s)) 20 4 true).run Tryz.prog w = .ok (.tuple #[.bool false, .bool false]) w := by kernel_rfl
@[go_sem] theorem as_str_9 (s : ByteArray) (w : World) : (Instr.typeAssert (.iface 9 (.string s)) 20 9 true).run Tryz.prog w = .ok (.tuple #[.string s, .bool true]) w := by kernel_rfl
@[go_sem] theorem as_str_79 (s : ByteArray) (w : World) : (Instr.typeAssert (.iface 9 (.string s)) 20 79 true).run Tryz.prog w = .ok (.tuple #[.float .f64 0, .bool false]) w := by kernel_rfl
@[go_sem] theorem as_str_80 (s : ByteArray) (w : World) : (Instr.typeAssert (.iface 9 (.string s)) 20 80 true).run Tryz.prog w = .ok (.tuple #[.slice none 0 0, .bool false]) w := by kernel_rfl
@[go_sem] theorem as_str_83 (s : ByteArray) (w : World) : (Instr.typeAssert (.iface 9 (.string s)) 20 83 true).run Tryz.prog w = .ok (.tuple #[.map none, .bool false]) w := by kernel_rfl
@[go_sem] theorem as_str_189 (s : ByteArray) (w : World) : (Instr.typeAssert (.iface 9 (.string s)) 20 189 true).run Tryz.prog w = .ok (.tuple #[.string ByteArray.empty, .bool false]) w := by kernel_rfl
@[go_sem] theorem as_str_130 (s : ByteArray) (w : World) : (Instr.typeAssert (.iface 9 (.string s)) 20 130 true).run Tryz.prog w = .ok (.tuple #[.pointer none, .bool false]) w := by kernel_rfl
@[go_sem] theorem as_str_87 (s : ByteArray) (w : World) : (Instr.typeAssert (.iface 9 (.string s)) 20 87 true).run Tryz.prog w = .ok (.tuple #[.nilIface, .bool false]) w := run_typeAssert_lacksB Tryz.underlying87 (by kernel_rfl) (by kernel_rfl) _ 20 w
@[go_sem] theorem as_flo_3 (n : Nat) (w : World) : (Instr.typeAssert (.iface 79 (.float .f64 n)) 20 3 true).run Tryz.prog w = .ok (.tuple #[.int .i64 0, .bool false]) w := by kernel_rfl
@[go_sem] theorem as_flo_4 (n : Nat) (w : World) : (Instr.typeAssert (.iface 79 (.float .f64 n)) 20 4 true).run Tryz.prog w = .ok (.tuple #[.bool false, .bool false]) w := by kernel_rfl
@[go_sem] theorem as_flo_9 (n : Nat) (w : World) : (Instr.typeAssert (.iface 79 (.float .f64 n)) 20 9 true).run Tryz.prog w = .ok (.tuple #[.string ByteArray.empty, .bool false]) w := by kernel_rfl
@[go_sem] theorem as_flo_79 (n : Nat) (w : World) : (Instr.typeAssert (.iface 79 (.float .f64 n)) 20 79 true).run Tryz.prog w = .ok (.tuple #[.float .f64 n, .bool true]) w := by kernel_rfl
@[go_sem] theorem as_flo_80 (n : Nat) (w : World) : (Instr.typeAssert (.iface 79 (.float .f64 n)) 20 80 true).run Tryz.prog w = .ok (.tuple #[.slice none 0 0, .bool false]) w := by kernel_rfl
@[go_sem] theorem as_flo_83 (n : Nat) (w : World) : (Instr.typeAssert (.iface 79 (.float .f64 n)) 20 83 true).run Tryz.prog w = .ok (.tuple #[.map none, .bool false]) w := by kernel_rfl
@[go_sem] theorem as_flo_189 (n : Nat) (w : World) : (Instr.typeAssert (.iface 79 (.float .f64 n)) 20 189 true).run Tryz.prog w = .ok (.tuple #[.string ByteArray.empty, .bool false]) w := by kernel_rfl
@[go_sem] theorem as_flo_130 (n : Nat) (w : World) : (Instr.typeAssert (.iface 79 (.float .f64 n)) 20 130 true).run Tryz.prog w = .ok (.tuple #[.pointer none, .bool false]) w := by kernel_rfl
@[go_sem] theorem as_flo_87 (n : Nat) (w : World) : (Instr.typeAssert (.iface 79 (.float .f64 n)) 20 87 true).run Tryz.prog w = .ok (.tuple #[.nilIface, .bool false]) w := run_typeAssert_lacksB Tryz.underlying87 (by kernel_rfl) (by kernel_rfl) _ 20 w
@[go_sem] theorem as_lst_3 (v : Value) (w : World) : (Instr.typeAssert (.iface 80 v) 20 3 true).run Tryz.prog w = .ok (.tuple #[.int .i64 0, .bool false]) w := by kernel_rfl
@[go_sem] theorem as_lst_4 (v : Value) (w : World) : (Instr.typeAssert (.iface 80 v) 20 4 true).run Tryz.prog w = .ok (.tuple #[.bool false, .bool false]) w := by kernel_rfl
@[go_sem] theorem as_lst_9 (v : Value) (w : World) : (Instr.typeAssert (.iface 80 v) 20 9 true).run Tryz.prog w = .ok (.tuple #[.string ByteArray.empty, .bool false]) w := by kernel_rfl
@[go_sem] theorem as_lst_79 (v : Value) (w : World) : (Instr.typeAssert (.iface 80 v) 20 79 true).run Tryz.prog w = .ok (.tuple #[.float .f64 0, .bool false]) w := by kernel_rfl
@[go_sem] theorem as_lst_80 (v : Value) (w : World) : (Instr.typeAssert (.iface 80 v) 20 80 true).run Tryz.prog w = .ok (.tuple #[v, .bool true]) w := by kernel_rfl
@[go_sem] theorem as_lst_83 (v : Value) (w : World) : (Instr.typeAssert (.iface 80 v) 20 83 true).run Tryz.prog w = .ok (.tuple #[.map none, .bool false]) w := by kernel_rfl
@[go_sem] theorem as_lst_189 (v : Value) (w : World) : (Instr.typeAssert (.iface 80 v) 20 189 true).run Tryz.prog w = .ok (.tuple #[.string ByteArray.empty, .bool false]) w := by kernel_rfl
@[go_sem] theorem as_lst_130 (v : Value) (w : World) : (Instr.typeAssert (.iface 80 v) 20 130 true).run Tryz.prog w = .ok (.tuple #[.pointer none, .bool false]) w := by kernel_rfl
@[go_sem] theorem as_lst_87 (v : Value) (w : World) : (Instr.typeAssert (.iface 80 v) 20 87 true).run Tryz.prog w = .ok (.tuple #[.nilIface, .bool false]) w := run_typeAssert_lacksB Tryz.underlying87 (by kernel_rfl) (by kernel_rfl) _ 20 w
@[go_sem] theorem as_mp_3 (v : Value) (w : World) : (Instr.typeAssert (.iface 83 v) 20 3 true).run Tryz.prog w = .ok (.tuple #[.int .i64 0, .bool false]) w := by kernel_rfl
@[go_sem] theorem as_mp_4 (v : Value) (w : World) : (Instr.typeAssert (.iface 83 v) 20 4 true).run Tryz.prog w = .ok (.tuple #[.bool false, .bool false]) w := by kernel_rfl
@[go_sem] theorem as_mp_9 (v : Value) (w : World) : (Instr.typeAssert (.iface 83 v) 20 9 true).run Tryz.prog w = .ok (.tuple #[.string ByteArray.empty, .bool false]) w := by kernel_rfl
@[go_sem] theorem as_mp_79 (v : Value) (w : World) : (Instr.typeAssert (.iface 83 v) 20 79 true).run Tryz.prog w = .ok (.tuple #[.float .f64 0, .bool false]) w := by kernel_rfl
@[go_sem] theorem as_mp_80 (v : Value) (w : World) : (Instr.typeAssert (.iface 83 v) 20 80 true).run Tryz.prog w = .ok (.tuple #[.slice none 0 0, .bool false]) w := by kernel_rfl
@[go_sem] theorem as_mp_83 (v : Value) (w : World) : (Instr.typeAssert (.iface 83 v) 20 83 true).run Tryz.prog w = .ok (.tuple #[v, .bool true]) w := by kernel_rfl
@[go_sem] theorem as_mp_189 (v : Value) (w : World) : (Instr.typeAssert (.iface 83 v) 20 189 true).run Tryz.prog w = .ok (.tuple #[.string ByteArray.empty, .bool false]) w := by kernel_rfl
@[go_sem] theorem as_mp_130 (v : Value) (w : World) : (Instr.typeAssert (.iface 83 v) 20 130 true).run Tryz.prog w = .ok (.tuple #[.pointer none, .bool false]) w := by kernel_rfl
@[go_sem] theorem as_mp_87 (v : Value) (w : World) : (Instr.typeAssert (.iface 83 v) 20 87 true).run Tryz.prog w = .ok (.tuple #[.nilIface, .bool false]) w := run_typeAssert_lacksB Tryz.underlying87 (by kernel_rfl) (by kernel_rfl) _ 20 w
@[go_sem] theorem fld34_0 (a b c d e f g : Value) (w : World) : (Instr.field 34 (.agg #[a, b, c, d, e, f, g]) 0).run Tryz.prog w = .ok (.agg #[a, b, c, d, e, f]) w := by kernel_rfl
@[go_sem] theorem fld34_1 (a b c d e f g : Value) (w : World) : (Instr.field 34 (.agg #[a, b, c, d, e, f, g]) 1).run Tryz.prog w = .ok g w := by kernel_rfl
end Go.Proofs.YtmjegeipnaalnaaGreatDoor
