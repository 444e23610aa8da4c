/- Closed facts of this program, each by the kernel's evaluation: what becomes an interface value, and what each type assertion says of a value of each dynamic type. -/
import Derived.Test.YtngdcnljbfkneabGreatDoorProg
import Derived.WalkKit
import Derived.WalkSpells
import Derived.WalkLawsBesides
import Derived.KernelRfl
import Derived.Stop.Asserts
import Derived.Below
import Derived.Laws.EntriesVeiled
import Derived.Lib.QuietBelow
import Derived.Handy
import Derived.Deep.QuietTactic
import Derived.BigQuiet
import Derived.Outline
import Derived.Lib.Hide
namespace Go.Proofs.YtngdcnljbfkneabGreatDoor
theorem below_dN {B : Nat} {a w : World} (h : RowKit.Below B a w) (n : Nat) : RowKit.Below B a (w.drewN n) := h.trans ⟨rfl, rfl, rfl, Nat.le_refl _, fun _ _ => rfl⟩
theorem cell_rg (W : World) (d : Nat) (os : Array Obj) (b off : Nat) (sp : Option Nat) (h : b < W.heap.size) : (Go.Sort.grow (redrawn W d) os).cell? ⟨b, off, sp⟩ = W.cell? ⟨b, off, sp⟩ := (below_regrown W d os).cell h
@[go_sem] theorem unary_negf (k : FloatKind) (b : Nat) : Op.unary .neg (.float k b) = pure (.float k (Op.negFloat k b)) := rfl
@[go_sem] theorem as_nil_int (w : World) : (Instr.typeAssert .nilIface 20 3 true).run Tryz.prog w = .ok (.tuple #[.int .i64 0, .bool false]) w := by kernel_rfl
@[go_sem] theorem as_nil_float64 (w : World) : (Instr.typeAssert .nilIface 20 23 true).run Tryz.prog w = .ok (.tuple #[.float .f64 0, .bool false]) w := by kernel_rfl
@[go_sem] theorem as_nil_big (w : World) : (Instr.typeAssert .nilIface 20 39 true).run Tryz.prog w = .ok (.tuple #[.pointer none, .bool false]) w := by kernel_rfl
@[go_sem] theorem as_nil_num (w : World) : (Instr.typeAssert .nilIface 20 38 true).run Tryz.prog w = .ok (.tuple #[.string ByteArray.empty, .bool false]) w := by kernel_rfl
@[go_sem] theorem as_nil_bool (w : World) : (Instr.typeAssert .nilIface 20 4 true).run Tryz.prog w = .ok (.tuple #[.bool false, .bool false]) w := by kernel_rfl
@[go_sem] theorem as_nil_string (w : World) : (Instr.typeAssert .nilIface 20 9 true).run Tryz.prog w = .ok (.tuple #[.string ByteArray.empty, .bool false]) w := by kernel_rfl
@[go_sem] theorem as_nil_anys (w : World) : (Instr.typeAssert .nilIface 20 57 true).run Tryz.prog w = .ok (.tuple #[.slice none 0 0, .bool false]) w := by kernel_rfl
@[go_sem] theorem as_int_int (v : Value) (w : World) : (Instr.typeAssert (.iface 3 v) 20 3 true).run Tryz.prog w = .ok (.tuple #[v, .bool true]) w := by kernel_rfl
@[go_sem] theorem as_int_float64 (v : Value) (w : World) : (Instr.typeAssert (.iface 3 v) 20 23 true).run Tryz.prog w = .ok (.tuple #[.float .f64 0, .bool false]) w := by kernel_rfl
@[go_sem] theorem as_int_big (v : Value) (w : World) : (Instr.typeAssert (.iface 3 v) 20 39 true).run Tryz.prog w = .ok (.tuple #[.pointer none, .bool false]) w := by kernel_rfl
@[go_sem] theorem as_int_num (v : Value) (w : World) : (Instr.typeAssert (.iface 3 v) 20 38 true).run Tryz.prog w = .ok (.tuple #[.string ByteArray.empty, .bool false]) w := by kernel_rfl
@[go_sem] theorem as_int_bool (v : Value) (w : World) : (Instr.typeAssert (.iface 3 v) 20 4 true).run Tryz.prog w = .ok (.tuple #[.bool false, .bool false]) w := by kernel_rfl
@[go_sem] theorem as_int_string (v : Value) (w : World) : (Instr.typeAssert (.iface 3 v) 20 9 true).run Tryz.prog w = .ok (.tuple #[.string ByteArray.empty, .bool false]) w := by kernel_rfl
@[go_sem] theorem as_int_anys (v : Value) (w : World) : (Instr.typeAssert (.iface 3 v) 20 57 true).run Tryz.prog w = .ok (.tuple #[.slice none 0 0, .bool false]) w := by kernel_rfl
@[go_sem] theorem mk_int (x : Value) (w : World) : (Instr.makeInterface 3 x).run Tryz.prog w = .ok (.iface 3 x) w := run_makeInterface w _ x (by kernel_rfl)
@[go_sem] theorem notnil_int (v : Value) (w : World) : (binOp .eql 20 (.iface 3 v) .nilIface).run Tryz.prog w = .ok (.bool false) w := by kernel_rfl
@[go_sem] theorem as_float64_int (v : Value) (w : World) : (Instr.typeAssert (.iface 23 v) 20 3 true).run Tryz.prog w = .ok (.tuple #[.int .i64 0, .bool false]) w := by kernel_rfl
@[go_sem] theorem as_float64_float64 (v : Value) (w : World) : (Instr.typeAssert (.iface 23 v) 20 23 true).run Tryz.prog w = .ok (.tuple #[v, .bool true]) w := by kernel_rfl
@[go_sem] theorem as_float64_big (v : Value) (w : World) : (Instr.typeAssert (.iface 23 v) 20 39 true).run Tryz.prog w = .ok (.tuple #[.pointer none, .bool false]) w := by kernel_rfl
@[go_sem] theorem as_float64_num (v : Value) (w : World) : (Instr.typeAssert (.iface 23 v) 20 38 true).run Tryz.prog w = .ok (.tuple #[.string ByteArray.empty, .bool false]) w := by kernel_rfl
@[go_sem] theorem as_float64_bool (v : Value) (w : World) : (Instr.typeAssert (.iface 23 v) 20 4 true).run Tryz.prog w = .ok (.tuple #[.bool false, .bool false]) w := by kernel_rfl
@[go_sem] theorem as_float64_string (v : Value) (w : World) : (Instr.typeAssert (.iface 23 v) 20 9 true).run Tryz.prog w = .ok (.tuple #[.string ByteArray.empty, .bool false]) w := by kernel_rfl
@[go_sem] theorem as_float64_anys (v : Value) (w : World) : (Instr.typeAssert (.iface 23 v) 20 57 true).run Tryz.prog w = .ok (.tuple #[.slice none 0 0, .bool false]) w := by kernel_rfl
@[go_sem] theorem mk_float64 (x : Value) (w : World) : (Instr.makeInterface 23 x).run Tryz.prog w = .ok (.iface 23 x) w := run_makeInterface w _ x (by kernel_rfl)
@[go_sem] theorem notnil_float64 (v : Value) (w : World) : (binOp .eql 20 (.iface 23 v) .nilIface).run Tryz.prog w = .ok (.bool false) w := by kernel_rfl
@[go_sem] theorem as_string_int (v : Value) (w : World) : (Instr.typeAssert (.iface 9 v) 20 3 true).run Tryz.prog w = .ok (.tuple #[.int .i64 0, .bool false]) w := by kernel_rfl
@[go_sem] theorem as_string_float64 (v : Value) (w : World) : (Instr.typeAssert (.iface 9 v) 20 23 true).run Tryz.prog w = .ok (.tuple #[.float .f64 0, .bool false]) w := by kernel_rfl
@[go_sem] theorem as_string_big (v : Value) (w : World) : (Instr.typeAssert (.iface 9 v) 20 39 true).run Tryz.prog w = .ok (.tuple #[.pointer none, .bool false]) w := by kernel_rfl
@[go_sem] theorem as_string_num (v : Value) (w : World) : (Instr.typeAssert (.iface 9 v) 20 38 true).run Tryz.prog w = .ok (.tuple #[.string ByteArray.empty, .bool false]) w := by kernel_rfl
@[go_sem] theorem as_string_bool (v : Value) (w : World) : (Instr.typeAssert (.iface 9 v) 20 4 true).run Tryz.prog w = .ok (.tuple #[.bool false, .bool false]) w := by kernel_rfl
@[go_sem] theorem as_string_string (v : Value) (w : World) : (Instr.typeAssert (.iface 9 v) 20 9 true).run Tryz.prog w = .ok (.tuple #[v, .bool true]) w := by kernel_rfl
@[go_sem] theorem as_string_anys (v : Value) (w : World) : (Instr.typeAssert (.iface 9 v) 20 57 true).run Tryz.prog w = .ok (.tuple #[.slice none 0 0, .bool false]) w := by kernel_rfl
@[go_sem] theorem mk_string (x : Value) (w : World) : (Instr.makeInterface 9 x).run Tryz.prog w = .ok (.iface 9 x) w := run_makeInterface w _ x (by kernel_rfl)
@[go_sem] theorem notnil_string (v : Value) (w : World) : (binOp .eql 20 (.iface 9 v) .nilIface).run Tryz.prog w = .ok (.bool false) w := by kernel_rfl
@[go_sem] theorem as_bool_int (v : Value) (w : World) : (Instr.typeAssert (.iface 4 v) 20 3 true).run Tryz.prog w = .ok (.tuple #[.int .i64 0, .bool false]) w := by kernel_rfl
@[go_sem] theorem as_bool_float64 (v : Value) (w : World) : (Instr.typeAssert (.iface 4 v) 20 23 true).run Tryz.prog w = .ok (.tuple #[.float .f64 0, .bool false]) w := by kernel_rfl
@[go_sem] theorem as_bool_big (v : Value) (w : World) : (Instr.typeAssert (.iface 4 v) 20 39 true).run Tryz.prog w = .ok (.tuple #[.pointer none, .bool false]) w := by kernel_rfl
@[go_sem] theorem as_bool_num (v : Value) (w : World) : (Instr.typeAssert (.iface 4 v) 20 38 true).run Tryz.prog w = .ok (.tuple #[.string ByteArray.empty, .bool false]) w := by kernel_rfl
@[go_sem] theorem as_bool_bool (v : Value) (w : World) : (Instr.typeAssert (.iface 4 v) 20 4 true).run Tryz.prog w = .ok (.tuple #[v, .bool true]) w := by kernel_rfl
@[go_sem] theorem as_bool_string (v : Value) (w : World) : (Instr.typeAssert (.iface 4 v) 20 9 true).run Tryz.prog w = .ok (.tuple #[.string ByteArray.empty, .bool false]) w := by kernel_rfl
@[go_sem] theorem as_bool_anys (v : Value) (w : World) : (Instr.typeAssert (.iface 4 v) 20 57 true).run Tryz.prog w = .ok (.tuple #[.slice none 0 0, .bool false]) w := by kernel_rfl
@[go_sem] theorem mk_bool (x : Value) (w : World) : (Instr.makeInterface 4 x).run Tryz.prog w = .ok (.iface 4 x) w := run_makeInterface w _ x (by kernel_rfl)
@[go_sem] theorem notnil_bool (v : Value) (w : World) : (binOp .eql 20 (.iface 4 v) .nilIface).run Tryz.prog w = .ok (.bool false) w := by kernel_rfl
@[go_sem] theorem as_num_int (v : Value) (w : World) : (Instr.typeAssert (.iface 38 v) 20 3 true).run Tryz.prog w = .ok (.tuple #[.int .i64 0, .bool false]) w := by kernel_rfl
@[go_sem] theorem as_num_float64 (v : Value) (w : World) : (Instr.typeAssert (.iface 38 v) 20 23 true).run Tryz.prog w = .ok (.tuple #[.float .f64 0, .bool false]) w := by kernel_rfl
@[go_sem] theorem as_num_big (v : Value) (w : World) : (Instr.typeAssert (.iface 38 v) 20 39 true).run Tryz.prog w = .ok (.tuple #[.pointer none, .bool false]) w := by kernel_rfl
@[go_sem] theorem as_num_num (v : Value) (w : World) : (Instr.typeAssert (.iface 38 v) 20 38 true).run Tryz.prog w = .ok (.tuple #[v, .bool true]) w := by kernel_rfl
@[go_sem] theorem as_num_bool (v : Value) (w : World) : (Instr.typeAssert (.iface 38 v) 20 4 true).run Tryz.prog w = .ok (.tuple #[.bool false, .bool false]) w := by kernel_rfl
@[go_sem] theorem as_num_string (v : Value) (w : World) : (Instr.typeAssert (.iface 38 v) 20 9 true).run Tryz.prog w = .ok (.tuple #[.string ByteArray.empty, .bool false]) w := by kernel_rfl
@[go_sem] theorem as_num_anys (v : Value) (w : World) : (Instr.typeAssert (.iface 38 v) 20 57 true).run Tryz.prog w = .ok (.tuple #[.slice none 0 0, .bool false]) w := by kernel_rfl
@[go_sem] theorem mk_num (x : Value) (w : World) : (Instr.makeInterface 38 x).run Tryz.prog w = .ok (.iface 38 x) w := run_makeInterface w _ x (by kernel_rfl)
@[go_sem] theorem notnil_num (v : Value) (w : World) : (binOp .eql 20 (.iface 38 v) .nilIface).run Tryz.prog w = .ok (.bool false) w := by kernel_rfl
@[go_sem] theorem as_anys_int (v : Value) (w : World) : (Instr.typeAssert (.iface 57 v) 20 3 true).run Tryz.prog w = .ok (.tuple #[.int .i64 0, .bool false]) w := by kernel_rfl
@[go_sem] theorem as_anys_float64 (v : Value) (w : World) : (Instr.typeAssert (.iface 57 v) 20 23 true).run Tryz.prog w = .ok (.tuple #[.float .f64 0, .bool false]) w := by kernel_rfl
@[go_sem] theorem as_anys_big (v : Value) (w : World) : (Instr.typeAssert (.iface 57 v) 20 39 true).run Tryz.prog w = .ok (.tuple #[.pointer none, .bool false]) w := by kernel_rfl
@[go_sem] theorem as_anys_num (v : Value) (w : World) : (Instr.typeAssert (.iface 57 v) 20 38 true).run Tryz.prog w = .ok (.tuple #[.string ByteArray.empty, .bool false]) w := by kernel_rfl
@[go_sem] theorem as_anys_bool (v : Value) (w : World) : (Instr.typeAssert (.iface 57 v) 20 4 true).run Tryz.prog w = .ok (.tuple #[.bool false, .bool false]) w := by kernel_rfl
@[go_sem] theorem as_anys_string (v : Value) (w : World) : (Instr.typeAssert (.iface 57 v) 20 9 true).run Tryz.prog w = .ok (.tuple #[.string ByteArray.empty, .bool false]) w := by kernel_rfl
@[go_sem] theorem as_anys_anys (v : Value) (w : World) : (Instr.typeAssert (.iface 57 v) 20 57 true).run Tryz.prog w = .ok (.tuple #[v, .bool true]) w := by kernel_rfl
@[go_sem] theorem mk_anys (x : Value) (w : World) : (Instr.makeInterface 57 x).run Tryz.prog w = .ok (.iface 57 x) w := run_makeInterface w _ x (by kernel_rfl)
@[go_sem] theorem notnil_anys (v : Value) (w : World) : (binOp .eql 20 (.iface 57 v) .nilIface).run Tryz.prog w = .ok (.bool false) w := by kernel_rfl
end Go.Proofs.YtngdcnljbfkneabGreatDoor
