/- Closed facts of this program, each by the kernel's evaluation: what becomes an interface value, and what each type assertion says of a value of each dynamic type. -/
import Derived.Test.YtcidgldfccjkbaaGreatDoorProg
import Derived.WalkKit
import Derived.WalkSpells
import Derived.WalkLawsBesides
import Derived.KernelRfl
import Derived.Stop.Asserts
namespace Go.Proofs.YtcidgldfccjkbaaGreatDoor
@[go_sem] theorem unary_negf (k : FloatKind) (b : Nat) : Op.unary .neg (.float k b) = pure (.float k (Op.negFloat k b)) := rfl
@[go_sem] theorem as_nil_int (w : World) : (Instr.typeAssert .nilIface 20 3 true).run Tryz.prog w = .ok (.tuple #[.int .i64 0, .bool false]) w := by kernel_rfl
@[go_sem] theorem as_nil_float64 (w : World) : (Instr.typeAssert .nilIface 20 22 true).run Tryz.prog w = .ok (.tuple #[.float .f64 0, .bool false]) w := by kernel_rfl
@[go_sem] theorem as_nil_big (w : World) : (Instr.typeAssert .nilIface 20 58 true).run Tryz.prog w = .ok (.tuple #[.pointer none, .bool false]) w := by kernel_rfl
@[go_sem] theorem as_nil_num (w : World) : (Instr.typeAssert .nilIface 20 60 true).run Tryz.prog w = .ok (.tuple #[.string ByteArray.empty, .bool false]) w := by kernel_rfl
@[go_sem] theorem as_nil_bool (w : World) : (Instr.typeAssert .nilIface 20 4 true).run Tryz.prog w = .ok (.tuple #[.bool false, .bool false]) w := by kernel_rfl
@[go_sem] theorem as_int_int (v : Value) (w : World) : (Instr.typeAssert (.iface 3 v) 20 3 true).run Tryz.prog w = .ok (.tuple #[v, .bool true]) w := by kernel_rfl
@[go_sem] theorem as_int_float64 (v : Value) (w : World) : (Instr.typeAssert (.iface 3 v) 20 22 true).run Tryz.prog w = .ok (.tuple #[.float .f64 0, .bool false]) w := by kernel_rfl
@[go_sem] theorem as_int_big (v : Value) (w : World) : (Instr.typeAssert (.iface 3 v) 20 58 true).run Tryz.prog w = .ok (.tuple #[.pointer none, .bool false]) w := by kernel_rfl
@[go_sem] theorem as_int_num (v : Value) (w : World) : (Instr.typeAssert (.iface 3 v) 20 60 true).run Tryz.prog w = .ok (.tuple #[.string ByteArray.empty, .bool false]) w := by kernel_rfl
@[go_sem] theorem as_int_bool (v : Value) (w : World) : (Instr.typeAssert (.iface 3 v) 20 4 true).run Tryz.prog w = .ok (.tuple #[.bool false, .bool false]) w := by kernel_rfl
@[go_sem] theorem mk_int (x : Value) (w : World) : (Instr.makeInterface 3 x).run Tryz.prog w = .ok (.iface 3 x) w := run_makeInterface w _ x (by kernel_rfl)
@[go_sem] theorem notnil_int (v : Value) (w : World) : (binOp .eql 20 (.iface 3 v) .nilIface).run Tryz.prog w = .ok (.bool false) w := by kernel_rfl
@[go_sem] theorem as_float64_int (v : Value) (w : World) : (Instr.typeAssert (.iface 22 v) 20 3 true).run Tryz.prog w = .ok (.tuple #[.int .i64 0, .bool false]) w := by kernel_rfl
@[go_sem] theorem as_float64_float64 (v : Value) (w : World) : (Instr.typeAssert (.iface 22 v) 20 22 true).run Tryz.prog w = .ok (.tuple #[v, .bool true]) w := by kernel_rfl
@[go_sem] theorem as_float64_big (v : Value) (w : World) : (Instr.typeAssert (.iface 22 v) 20 58 true).run Tryz.prog w = .ok (.tuple #[.pointer none, .bool false]) w := by kernel_rfl
@[go_sem] theorem as_float64_num (v : Value) (w : World) : (Instr.typeAssert (.iface 22 v) 20 60 true).run Tryz.prog w = .ok (.tuple #[.string ByteArray.empty, .bool false]) w := by kernel_rfl
@[go_sem] theorem as_float64_bool (v : Value) (w : World) : (Instr.typeAssert (.iface 22 v) 20 4 true).run Tryz.prog w = .ok (.tuple #[.bool false, .bool false]) w := by kernel_rfl
@[go_sem] theorem mk_float64 (x : Value) (w : World) : (Instr.makeInterface 22 x).run Tryz.prog w = .ok (.iface 22 x) w := run_makeInterface w _ x (by kernel_rfl)
@[go_sem] theorem notnil_float64 (v : Value) (w : World) : (binOp .eql 20 (.iface 22 v) .nilIface).run Tryz.prog w = .ok (.bool false) w := by kernel_rfl
@[go_sem] theorem as_string_int (v : Value) (w : World) : (Instr.typeAssert (.iface 9 v) 20 3 true).run Tryz.prog w = .ok (.tuple #[.int .i64 0, .bool false]) w := by kernel_rfl
@[go_sem] theorem as_string_float64 (v : Value) (w : World) : (Instr.typeAssert (.iface 9 v) 20 22 true).run Tryz.prog w = .ok (.tuple #[.float .f64 0, .bool false]) w := by kernel_rfl
@[go_sem] theorem as_string_big (v : Value) (w : World) : (Instr.typeAssert (.iface 9 v) 20 58 true).run Tryz.prog w = .ok (.tuple #[.pointer none, .bool false]) w := by kernel_rfl
@[go_sem] theorem as_string_num (v : Value) (w : World) : (Instr.typeAssert (.iface 9 v) 20 60 true).run Tryz.prog w = .ok (.tuple #[.string ByteArray.empty, .bool false]) w := by kernel_rfl
@[go_sem] theorem as_string_bool (v : Value) (w : World) : (Instr.typeAssert (.iface 9 v) 20 4 true).run Tryz.prog w = .ok (.tuple #[.bool false, .bool false]) w := by kernel_rfl
@[go_sem] theorem mk_string (x : Value) (w : World) : (Instr.makeInterface 9 x).run Tryz.prog w = .ok (.iface 9 x) w := run_makeInterface w _ x (by kernel_rfl)
@[go_sem] theorem notnil_string (v : Value) (w : World) : (binOp .eql 20 (.iface 9 v) .nilIface).run Tryz.prog w = .ok (.bool false) w := by kernel_rfl
@[go_sem] theorem as_bool_int (v : Value) (w : World) : (Instr.typeAssert (.iface 4 v) 20 3 true).run Tryz.prog w = .ok (.tuple #[.int .i64 0, .bool false]) w := by kernel_rfl
@[go_sem] theorem as_bool_float64 (v : Value) (w : World) : (Instr.typeAssert (.iface 4 v) 20 22 true).run Tryz.prog w = .ok (.tuple #[.float .f64 0, .bool false]) w := by kernel_rfl
@[go_sem] theorem as_bool_big (v : Value) (w : World) : (Instr.typeAssert (.iface 4 v) 20 58 true).run Tryz.prog w = .ok (.tuple #[.pointer none, .bool false]) w := by kernel_rfl
@[go_sem] theorem as_bool_num (v : Value) (w : World) : (Instr.typeAssert (.iface 4 v) 20 60 true).run Tryz.prog w = .ok (.tuple #[.string ByteArray.empty, .bool false]) w := by kernel_rfl
@[go_sem] theorem as_bool_bool (v : Value) (w : World) : (Instr.typeAssert (.iface 4 v) 20 4 true).run Tryz.prog w = .ok (.tuple #[v, .bool true]) w := by kernel_rfl
@[go_sem] theorem mk_bool (x : Value) (w : World) : (Instr.makeInterface 4 x).run Tryz.prog w = .ok (.iface 4 x) w := run_makeInterface w _ x (by kernel_rfl)
@[go_sem] theorem notnil_bool (v : Value) (w : World) : (binOp .eql 20 (.iface 4 v) .nilIface).run Tryz.prog w = .ok (.bool false) w := by kernel_rfl
@[go_sem] theorem as_f0_int (v : Value) (w : World) : (Instr.typeAssert (.iface 54 v) 20 3 true).run Tryz.prog w = .ok (.tuple #[.int .i64 0, .bool false]) w := by kernel_rfl
@[go_sem] theorem as_f0_float64 (v : Value) (w : World) : (Instr.typeAssert (.iface 54 v) 20 22 true).run Tryz.prog w = .ok (.tuple #[.float .f64 0, .bool false]) w := by kernel_rfl
@[go_sem] theorem as_f0_big (v : Value) (w : World) : (Instr.typeAssert (.iface 54 v) 20 58 true).run Tryz.prog w = .ok (.tuple #[.pointer none, .bool false]) w := by kernel_rfl
@[go_sem] theorem as_f0_num (v : Value) (w : World) : (Instr.typeAssert (.iface 54 v) 20 60 true).run Tryz.prog w = .ok (.tuple #[.string ByteArray.empty, .bool false]) w := by kernel_rfl
@[go_sem] theorem as_f0_bool (v : Value) (w : World) : (Instr.typeAssert (.iface 54 v) 20 4 true).run Tryz.prog w = .ok (.tuple #[.bool false, .bool false]) w := by kernel_rfl
@[go_sem] theorem mk_f0 (x : Value) (w : World) : (Instr.makeInterface 54 x).run Tryz.prog w = .ok (.iface 54 x) w := run_makeInterface w _ x (by kernel_rfl)
@[go_sem] theorem notnil_f0 (v : Value) (w : World) : (binOp .eql 20 (.iface 54 v) .nilIface).run Tryz.prog w = .ok (.bool false) w := by kernel_rfl
end Go.Proofs.YtcidgldfccjkbaaGreatDoor
