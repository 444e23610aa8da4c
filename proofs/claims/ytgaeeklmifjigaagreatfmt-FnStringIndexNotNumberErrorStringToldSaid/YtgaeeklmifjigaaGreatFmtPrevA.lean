/- Contracts: Preview of what fits, TypeOf, typeErrorPreview and the two error texts, at a bool, an int and null. -/
import Derived.Test.YtgaeeklmifjigaaGreatFmtJlm
import Derived.Test.YtgaeeklmifjigaaGreatFmtItoaZ
namespace Go.Proofs.YtgaeeklmifjigaaGreatFmt
open Go.RowKit Go.Deep Go.Lib Go.Sort

theorem run_add_txt {P : Program} (t : TypeId) (a b c : List UInt8) (h : a.length + b.length ≤ 9223372036854775807) (hc : a ++ b = c) (w : World) : (binOp .add t (.string ⟨a.toArray⟩) (.string ⟨b.toArray⟩)).run P w = .ok (.string ⟨c.toArray⟩) w := by
  subst hc
  have e : (⟨a.toArray⟩ : ByteArray) ++ ⟨b.toArray⟩ = ⟨(a ++ b).toArray⟩ := by
    simp [ByteArray.mk_append_mk]
  rw [← e]
  simp [binOp, run_string_add_sum w _ _ (show (⟨a.toArray⟩ : ByteArray).size + (⟨b.toArray⟩ : ByteArray).size ≤ 9223372036854775807 from h)]

@[go_sem] theorem as_int_float64 (v : Value) (w : World) : (Instr.typeAssert (.iface 3 v) 20 62 true).run Tryz.prog w = .ok (.tuple #[.float .f64 0, .bool false]) w := by kernel_rfl
@[go_sem] theorem as_int_big (v : Value) (w : World) : (Instr.typeAssert (.iface 3 v) 20 64 true).run Tryz.prog w = .ok (.tuple #[.pointer none, .bool false]) w := by kernel_rfl
@[go_sem] theorem as_int_num (v : Value) (w : World) : (Instr.typeAssert (.iface 3 v) 20 66 true).run Tryz.prog w = .ok (.tuple #[.string ByteArray.empty, .bool false]) w := by kernel_rfl
@[go_sem] theorem as_int_iter (v : Value) (w : World) : (Instr.typeAssert (.iface 3 v) 20 72 true).run Tryz.prog w = .ok (.tuple #[.nilIface, .bool false]) w := run_typeAssert_lacksB Tryz.underlying72 (by kernel_rfl) (by kernel_rfl) v _ w
@[go_sem] theorem as_bool_float64 (v : Value) (w : World) : (Instr.typeAssert (.iface 4 v) 20 62 true).run Tryz.prog w = .ok (.tuple #[.float .f64 0, .bool false]) w := by kernel_rfl
@[go_sem] theorem as_bool_big (v : Value) (w : World) : (Instr.typeAssert (.iface 4 v) 20 64 true).run Tryz.prog w = .ok (.tuple #[.pointer none, .bool false]) w := by kernel_rfl
@[go_sem] theorem as_bool_num (v : Value) (w : World) : (Instr.typeAssert (.iface 4 v) 20 66 true).run Tryz.prog w = .ok (.tuple #[.string ByteArray.empty, .bool false]) w := by kernel_rfl
@[go_sem] theorem as_bool_iter (v : Value) (w : World) : (Instr.typeAssert (.iface 4 v) 20 72 true).run Tryz.prog w = .ok (.tuple #[.nilIface, .bool false]) w := run_typeAssert_lacksB Tryz.underlying72 (by kernel_rfl) (by kernel_rfl) v _ w
@[go_sem] theorem as_string_float64 (v : Value) (w : World) : (Instr.typeAssert (.iface 9 v) 20 62 true).run Tryz.prog w = .ok (.tuple #[.float .f64 0, .bool false]) w := by kernel_rfl
@[go_sem] theorem as_string_big (v : Value) (w : World) : (Instr.typeAssert (.iface 9 v) 20 64 true).run Tryz.prog w = .ok (.tuple #[.pointer none, .bool false]) w := by kernel_rfl
@[go_sem] theorem as_string_num (v : Value) (w : World) : (Instr.typeAssert (.iface 9 v) 20 66 true).run Tryz.prog w = .ok (.tuple #[.string ByteArray.empty, .bool false]) w := by kernel_rfl
@[go_sem] theorem as_string_iter (v : Value) (w : World) : (Instr.typeAssert (.iface 9 v) 20 72 true).run Tryz.prog w = .ok (.tuple #[.nilIface, .bool false]) w := run_typeAssert_lacksB Tryz.underlying72 (by kernel_rfl) (by kernel_rfl) v _ w

set_option maxHeartbeats 2000000 in
set_option maxRecDepth 100000 in
theorem typeOf_int (v : Value) (W : World) : Calls Tryz.prog 39 #[.iface 3 v] W fun e w' => e = .returned (.string ⟨#[110, 117, 109, 98, 101, 114]⟩) ∧ w' = W := by
  go_enter Tryz.func39, Tryz.ntmps39
  go_wp2
  go_ret
  exact ⟨rfl, rfl⟩

set_option maxHeartbeats 2000000 in
set_option maxRecDepth 100000 in
theorem typeOf_bool (v : Value) (W : World) : Calls Tryz.prog 39 #[.iface 4 v] W fun e w' => e = .returned (.string ⟨#[98, 111, 111, 108, 101, 97, 110]⟩) ∧ w' = W := by
  go_enter Tryz.func39, Tryz.ntmps39
  go_wp2
  go_ret
  exact ⟨rfl, rfl⟩

set_option maxHeartbeats 2000000 in
set_option maxRecDepth 100000 in
theorem typeOf_string (v : Value) (W : World) : Calls Tryz.prog 39 #[.iface 9 v] W fun e w' => e = .returned (.string ⟨#[115, 116, 114, 105, 110, 103]⟩) ∧ w' = W := by
  go_enter Tryz.func39, Tryz.ntmps39
  go_wp2
  go_ret
  exact ⟨rfl, rfl⟩

set_option maxHeartbeats 2000000 in
set_option maxRecDepth 100000 in
/-- Preview of what takes at most 30 bytes. -/
theorem preview_short (v : Value) (l : List UInt8) (hl : l.length ≤ 30) (W : World)
    (HJ : Hid (Calls Tryz.prog 49 #[v, .int .i64 32] W fun e w' =>
      e = .returned (.slice (some ⟨W.heap.size + 1, 0, none⟩) l.length 32) ∧ Below W.heap.size W w' ∧
      ∃ cur : Array Value, w'.heap[W.heap.size + 1]? = some (.cells cur 5 (0, 0)) ∧ cur.size = 32 ∧ ∀ (j : Nat) (b : UInt8), l[j]? = some b → cur[j]? = some (.int .u8 (b.toNat : Int)))) :
    Calls Tryz.prog 40 #[v] W fun e w' => e = .returned (.string ⟨l.toArray⟩) ∧ Below W.heap.size W w' := by
  obtain ⟨L, hL⟩ : ∃ L, l.length = L := ⟨_, rfl⟩
  rw [hL] at HJ hl
  have hle : ¬ ((30 : Int) < (L : Int)) := by omega
  have hle' : (L : Int) ≤ 30 := by omega
  have HC : Hid (∀ (w2 : World) (cur : Array Value), w2.heap[W.heap.size + 1]? = some (.cells cur 5 (0, 0)) → (∀ (j : Nat) (b : UInt8), l[j]? = some b → cur[j]? = some (.int .u8 (b.toNat : Int))) →
      (convert 25 9 (.slice (some ⟨W.heap.size + 1, 0, none⟩) L 32)).run Tryz.prog w2 = .ok (.string ⟨l.toArray⟩) w2) := Lib.hid fun w cur hcur hj => by
    rw [← hL]
    refine run_convert_bytes_back w 25 9 5 ⟨W.heap.size + 1, 0, none⟩ 32 l (by kernel_rfl) (by kernel_rfl) (by kernel_rfl) fun j hjb => ?_
    rw [Lib.add_plain, Nat.zero_add, Lib.cell_of_heap hcur]
    exact hj j l[j] (List.getElem?_eq_getElem hjb)
  clear hL
  go_enter Tryz.func40, Tryz.ntmps40
  go_wp2_with (go_at_call 49; refine HJ.out.mono ?_; rintro e w2 ⟨rfl, hb, cur, hcur, hsz, hj⟩; have hcv0 := HC.out w2 cur hcur hj; clear hcur hsz hj)
  go_ret
  exact ⟨rfl, hb⟩


set_option maxHeartbeats 2000000 in
set_option maxRecDepth 100000 in
theorem tep_int (v : Value) (s : ByteArray) (hl : s.size ≤ 1048576) (W : World)
    (HP : Hid (Calls Tryz.prog 40 #[.iface 3 v] W fun e w' => e = .returned (.string s) ∧ Below W.heap.size W w')) :
    Calls Tryz.prog 31 #[.iface 3 v] W fun e w' => e = .returned (.string (⟨#[110, 117, 109, 98, 101, 114, 32, 40]⟩ ++ s ++ ⟨#[41]⟩)) ∧ Below W.heap.size W w' := by
  have HT := Lib.hid (typeOf_int v)
  obtain ⟨n, hn⟩ : ∃ n, s.size = n := ⟨_, rfl⟩
  rw [hn] at hl
  go_enter Tryz.func31, Tryz.ntmps31
  go_wp2_with (first
    | (go_at_call 39; refine (HT.out _).mono ?_; rintro e w1 ⟨rfl, rfl⟩)
    | (go_at_call 40; refine HP.out.mono ?_; rintro e w2 ⟨rfl, hb⟩))
  go_ret
  exact ⟨rfl, hb⟩

set_option maxHeartbeats 2000000 in
set_option maxRecDepth 100000 in
theorem tep_bool (v : Value) (s : ByteArray) (hl : s.size ≤ 1048576) (W : World)
    (HP : Hid (Calls Tryz.prog 40 #[.iface 4 v] W fun e w' => e = .returned (.string s) ∧ Below W.heap.size W w')) :
    Calls Tryz.prog 31 #[.iface 4 v] W fun e w' => e = .returned (.string (⟨#[98, 111, 111, 108, 101, 97, 110, 32, 40]⟩ ++ s ++ ⟨#[41]⟩)) ∧ Below W.heap.size W w' := by
  have HT := Lib.hid (typeOf_bool v)
  obtain ⟨n, hn⟩ : ∃ n, s.size = n := ⟨_, rfl⟩
  rw [hn] at hl
  go_enter Tryz.func31, Tryz.ntmps31
  go_wp2_with (first
    | (go_at_call 39; refine (HT.out _).mono ?_; rintro e w1 ⟨rfl, rfl⟩)
    | (go_at_call 40; refine HP.out.mono ?_; rintro e w2 ⟨rfl, hb⟩))
  go_ret
  exact ⟨rfl, hb⟩

set_option maxHeartbeats 2000000 in
set_option maxRecDepth 100000 in
theorem tep_string (v : Value) (s : ByteArray) (hl : s.size ≤ 1048576) (W : World)
    (HP : Hid (Calls Tryz.prog 40 #[.iface 9 v] W fun e w' => e = .returned (.string s) ∧ Below W.heap.size W w')) :
    Calls Tryz.prog 31 #[.iface 9 v] W fun e w' => e = .returned (.string (⟨#[115, 116, 114, 105, 110, 103, 32, 40]⟩ ++ s ++ ⟨#[41]⟩)) ∧ Below W.heap.size W w' := by
  have HT := Lib.hid (typeOf_string v)
  obtain ⟨n, hn⟩ : ∃ n, s.size = n := ⟨_, rfl⟩
  rw [hn] at hl
  go_enter Tryz.func31, Tryz.ntmps31
  go_wp2_with (first
    | (go_at_call 39; refine (HT.out _).mono ?_; rintro e w1 ⟨rfl, rfl⟩)
    | (go_at_call 40; refine HP.out.mono ?_; rintro e w2 ⟨rfl, hb⟩))
  go_ret
  exact ⟨rfl, hb⟩

set_option maxHeartbeats 2000000 in
set_option maxRecDepth 100000 in
theorem tep_nil (W : World) :
    Calls Tryz.prog 31 #[.nilIface] W fun e w' => e = .returned (.string ⟨#[110, 117, 108, 108]⟩) ∧ w' = W := by
  go_enter Tryz.func31, Tryz.ntmps31
  go_wp2
  go_ret
  exact ⟨rfl, rfl⟩
end Go.Proofs.YtgaeeklmifjigaaGreatFmt
