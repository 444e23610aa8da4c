/- Contracts: isnan and nan, and their exported shims. -/
import Derived.Test.YtcidgldfccjkbaaGreatDoorZz
import Derived.Handy
namespace Go.Proofs.YtcidgldfccjkbaaGreatDoor
open Go.RowKit

@[go_sem] theorem as_bool_err (v : Value) (w : World) : (Instr.typeAssert (.iface 4 v) 20 48 true).run Tryz.prog w = .ok (.tuple #[.nilIface, .bool false]) w := run_typeAssert_lacksB Tryz.underlying48 (by kernel_rfl) (by kernel_rfl) v 20 w
@[go_sem] theorem as_f0_err (v : Value) (w : World) : (Instr.typeAssert (.iface 54 v) 20 48 true).run Tryz.prog w = .ok (.tuple #[.iface 54 v, .bool true]) w := run_typeAssert_hasB Tryz.underlying48 (by kernel_rfl) v 20 w

theorem isnan_f (b : Nat) (w : World) : Calls Tryz.prog 47 #[.iface 22 (.float .f64 b)] w fun e w' => e = .returned (.iface 4 (.bool (FloatKey.isNaN b))) ∧ w = w' := by
  go_enter Tryz.func47, Tryz.ntmps47
  go_wp2_with (first | (go_at_call 49; refine (toFloat_f _ _).mono ?_; rintro e w' ⟨rfl, rfl⟩) | (go_at_call 52; refine (isNaN_any b _).mono ?_; rintro e w' ⟨rfl, rfl⟩))
  go_ret
  exact ⟨rfl, rfl⟩

theorem isnan_i (n : Int) (hn : (Lit.int .i64 n).wf = true) (w : World) : Calls Tryz.prog 47 #[.iface 3 (.int .i64 n)] w fun e w' => e = .returned (.iface 4 (.bool false)) ∧ w = w' := by
  have e := ofInt_nan n hn
  go_enter Tryz.func47, Tryz.ntmps47
  go_wp2_with (first | (go_at_call 49; refine (toFloat_i _ _).mono ?_; rintro e w' ⟨rfl, rfl⟩) | (go_at_call 52; refine (isNaN_any _ _).mono ?_; rintro e w' ⟨rfl, rfl⟩))
  go_ret
  exact ⟨rfl, rfl⟩

theorem isnan_n (w : World) : Calls Tryz.prog 47 #[.nilIface] w fun e w' => e = .returned (.iface 4 (.bool false)) ∧ w = w' := by
  go_enter Tryz.func47, Tryz.ntmps47
  go_wp2_with ((go_at_call 49; refine (toFloat_n _).mono ?_; rintro e w' ⟨rfl, rfl⟩))
  go_ret
  exact ⟨rfl, rfl⟩

theorem isnan_s (v : Value) (w : World) : Calls Tryz.prog 47 #[.iface 9 v] w fun e w' => e = .returned (.iface 54 (.pointer (some ⟨w.heap.size, 0, none⟩))) ∧ Below w.heap.size w w' := by
  go_enter Tryz.func47, Tryz.ntmps47
  go_wp2_with ((go_at_call 49; refine (toFloat_s _ _).mono ?_; rintro e w' ⟨rfl, rfl⟩))
  go_ret
  exact ⟨rfl, by go_grown⟩

theorem nan_f (b : Nat) (w : World) : Calls Tryz.prog 48 #[.iface 22 (.float .f64 b)] w fun e w' => e = .returned (.iface 22 (.float .f64 9221120237041090561)) ∧ w = w' := by
  go_enter Tryz.func48, Tryz.ntmps48
  go_wp2_with (go_in)
  go_ret
  exact ⟨rfl, rfl⟩

theorem nan_i (n : Int) (w : World) : Calls Tryz.prog 48 #[.iface 3 (.int .i64 n)] w fun e w' => e = .returned (.iface 22 (.float .f64 9221120237041090561)) ∧ w = w' := by
  go_enter Tryz.func48, Tryz.ntmps48
  go_wp2_with (go_in)
  go_ret
  exact ⟨rfl, rfl⟩

theorem nan_s (v : Value) (w : World) : Calls Tryz.prog 48 #[.iface 9 v] w fun e w' => e = .returned (.iface 22 (.float .f64 9221120237041090561)) ∧ w = w' := by
  go_enter Tryz.func48, Tryz.ntmps48
  go_wp2_with (go_in)
  go_ret
  exact ⟨rfl, rfl⟩

theorem nan_n (w : World) : Calls Tryz.prog 48 #[.nilIface] w fun e w' => e = .returned (.iface 22 (.float .f64 9221120237041090561)) ∧ w = w' := by
  go_enter Tryz.func48, Tryz.ntmps48
  go_wp2_with (go_in)
  go_ret
  exact ⟨rfl, rfl⟩

theorem zz_isnan_F (b : Nat) (w : World) : Calls Tryz.prog 33 #[.float .f64 b] w fun e w' => e = .returned (.tuple #[.bool (FloatKey.isNaN b), .bool true, .bool false]) ∧ w = w' := by
  go_enter Tryz.func33, Tryz.ntmps33
  go_wp2_with ((go_at_call 47; refine (isnan_f b _).mono ?_; rintro e w' ⟨rfl, rfl⟩))
  go_ret3
  exact ⟨rfl, rfl⟩

theorem zz_isnan_I (n : Int) (hn : (Lit.int .i64 n).wf = true) (w : World) : Calls Tryz.prog 34 #[.int .i64 n] w fun e w' => e = .returned (.tuple #[.bool (false), .bool true, .bool false]) ∧ w = w' := by
  go_enter Tryz.func34, Tryz.ntmps34
  go_wp2_with ((go_at_call 47; refine (isnan_i n hn _).mono ?_; rintro e w' ⟨rfl, rfl⟩))
  go_ret3
  exact ⟨rfl, rfl⟩

theorem zz_isnan_Nil (w : World) : Calls Tryz.prog 35 #[] w fun e w' => e = .returned (.tuple #[.bool (false), .bool true, .bool false]) ∧ w = w' := by
  go_enter Tryz.func35, Tryz.ntmps35
  go_wp2_with ((go_at_call 47; refine (isnan_n _).mono ?_; rintro e w' ⟨rfl, rfl⟩))
  go_ret3
  exact ⟨rfl, rfl⟩

theorem zz_isnan_S (v : ByteArray) (w : World) : Calls Tryz.prog 36 #[.string v] w fun e w' => e = .returned (.tuple #[.bool false, .bool false, .bool true]) ∧ Below w.heap.size w w' := by
  go_enter Tryz.func36, Tryz.ntmps36
  go_wp2_with ((go_at_call 47; refine (isnan_s _ _).mono ?_; rintro e w' ⟨rfl, hb⟩))
  go_ret3
  exact ⟨rfl, hb⟩

theorem zz_nan_F (b : Nat) (w : World) : Calls Tryz.prog 39 #[.float .f64 b] w fun e w' => e = .returned (.tuple #[.float .f64 9221120237041090561, .bool true]) ∧ w = w' := by
  go_enter Tryz.func39, Tryz.ntmps39
  go_wp2_with ((go_at_call 48; refine (nan_f b _).mono ?_; rintro e w' ⟨rfl, rfl⟩))
  go_ret2
  exact ⟨rfl, rfl⟩

theorem zz_nan_I (n : Int) (w : World) : Calls Tryz.prog 41 #[.int .i64 n] w fun e w' => e = .returned (.tuple #[.float .f64 9221120237041090561, .bool true]) ∧ w = w' := by
  go_enter Tryz.func41, Tryz.ntmps41
  go_wp2_with ((go_at_call 48; refine (nan_i n _).mono ?_; rintro e w' ⟨rfl, rfl⟩))
  go_ret2
  exact ⟨rfl, rfl⟩

theorem zz_nan_S (v : ByteArray) (w : World) : Calls Tryz.prog 43 #[.string v] w fun e w' => e = .returned (.tuple #[.float .f64 9221120237041090561, .bool true]) ∧ w = w' := by
  go_enter Tryz.func43, Tryz.ntmps43
  go_wp2_with ((go_at_call 48; refine (nan_s _ _).mono ?_; rintro e w' ⟨rfl, rfl⟩))
  go_ret2
  exact ⟨rfl, rfl⟩

theorem zz_nan_Nil (w : World) : Calls Tryz.prog 42 #[] w fun e w' => e = .returned (.tuple #[.float .f64 9221120237041090561, .bool true]) ∧ w = w' := by
  go_enter Tryz.func42, Tryz.ntmps42
  go_wp2_with ((go_at_call 48; refine (nan_n _).mono ?_; rintro e w' ⟨rfl, rfl⟩))
  go_ret2
  exact ⟨rfl, rfl⟩

end Go.Proofs.YtcidgldfccjkbaaGreatDoor
