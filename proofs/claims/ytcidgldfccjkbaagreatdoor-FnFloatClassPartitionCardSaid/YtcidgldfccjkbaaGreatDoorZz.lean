/- Contracts: the exported shims of the predicates (isfinite, isinfinite, isnormal, isnan, nan) answer the bool and that it is one. -/
import Derived.Test.YtcidgldfccjkbaaGreatDoorFl
namespace Go.Proofs.YtcidgldfccjkbaaGreatDoor
open Go.RowKit

theorem zz_isfin_F (b : Nat) (h : b < 18446744073709551616) (w : World) : Calls Tryz.prog 28 #[.float .f64 b] w fun e w' => e = .returned (.tuple #[.bool (!FloatKey.isInf b), .bool true]) ∧ w = w' := by
  go_enter Tryz.func28, Tryz.ntmps28
  go_wp2_with ((go_at_call 46; refine (isfin_f b h _).mono ?_; rintro e w' ⟨rfl, rfl⟩))
  go_ret2
  exact ⟨rfl, rfl⟩

theorem zz_isfin_I (n : Int) (hn : (Lit.int .i64 n).wf = true) (w : World) : Calls Tryz.prog 29 #[.int .i64 n] w fun e w' => e = .returned (.tuple #[.bool (true), .bool true]) ∧ w = w' := by
  go_enter Tryz.func29, Tryz.ntmps29
  go_wp2_with ((go_at_call 46; refine (isfin_i n hn _).mono ?_; rintro e w' ⟨rfl, rfl⟩))
  go_ret2
  exact ⟨rfl, rfl⟩

theorem zz_isfin_S (v : ByteArray) (w : World) : Calls Tryz.prog 31 #[.string v] w fun e w' => e = .returned (.tuple #[.bool (false), .bool true]) ∧ w = w' := by
  go_enter Tryz.func31, Tryz.ntmps31
  go_wp2_with ((go_at_call 46; refine (isfin_s _ _).mono ?_; rintro e w' ⟨rfl, rfl⟩))
  go_ret2
  exact ⟨rfl, rfl⟩

theorem zz_isfin_Nil (w : World) : Calls Tryz.prog 30 #[] w fun e w' => e = .returned (.tuple #[.bool (false), .bool true]) ∧ w = w' := by
  go_enter Tryz.func30, Tryz.ntmps30
  go_wp2_with ((go_at_call 46; refine (isfin_n _).mono ?_; rintro e w' ⟨rfl, rfl⟩))
  go_ret2
  exact ⟨rfl, rfl⟩

theorem zz_isinf_F (b : Nat) (h : b < 18446744073709551616) (w : World) : Calls Tryz.prog 15 #[.float .f64 b] w fun e w' => e = .returned (.tuple #[.bool (FloatKey.isInf b), .bool true]) ∧ w = w' := by
  go_enter Tryz.func15, Tryz.ntmps15
  go_wp2_with ((go_at_call 45; refine (isinf_f b h _).mono ?_; rintro e w' ⟨rfl, rfl⟩))
  go_ret2
  exact ⟨rfl, rfl⟩

theorem zz_isinf_I (n : Int) (hn : (Lit.int .i64 n).wf = true) (w : World) : Calls Tryz.prog 24 #[.int .i64 n] w fun e w' => e = .returned (.tuple #[.bool (false), .bool true]) ∧ w = w' := by
  go_enter Tryz.func24, Tryz.ntmps24
  go_wp2_with ((go_at_call 45; refine (isinf_i n hn _).mono ?_; rintro e w' ⟨rfl, rfl⟩))
  go_ret2
  exact ⟨rfl, rfl⟩

theorem zz_isinf_S (v : ByteArray) (w : World) : Calls Tryz.prog 26 #[.string v] w fun e w' => e = .returned (.tuple #[.bool (false), .bool true]) ∧ w = w' := by
  go_enter Tryz.func26, Tryz.ntmps26
  go_wp2_with ((go_at_call 45; refine (isinf_s _ _).mono ?_; rintro e w' ⟨rfl, rfl⟩))
  go_ret2
  exact ⟨rfl, rfl⟩

theorem zz_isinf_Nil (w : World) : Calls Tryz.prog 25 #[] w fun e w' => e = .returned (.tuple #[.bool (false), .bool true]) ∧ w = w' := by
  go_enter Tryz.func25, Tryz.ntmps25
  go_wp2_with ((go_at_call 45; refine (isinf_n _).mono ?_; rintro e w' ⟨rfl, rfl⟩))
  go_ret2
  exact ⟨rfl, rfl⟩

theorem zz_isnormal_Float (b : Nat) (h : b < 18446744073709551616) (w : World) : Calls Tryz.prog 13 #[.float .f64 b] w fun e w' => e = .returned (.tuple #[.bool (isNormal b), .bool true]) ∧ w = w' := by
  go_enter Tryz.func13, Tryz.ntmps13
  go_wp2_with ((go_at_call 44; refine (isnormal_f b h _).mono ?_; rintro e w' ⟨rfl, rfl⟩))
  go_ret2
  exact ⟨rfl, rfl⟩

theorem zz_isnormal_Int (n : Int) (hn : (Lit.int .i64 n).wf = true) (w : World) : Calls Tryz.prog 14 #[.int .i64 n] w fun e w' => e = .returned (.tuple #[.bool (n != 0), .bool true]) ∧ w = w' := by
  go_enter Tryz.func14, Tryz.ntmps14
  go_wp2_with ((go_at_call 44; refine (isnormal_i n hn _).mono ?_; rintro e w' ⟨rfl, rfl⟩))
  go_ret2
  exact ⟨rfl, rfl⟩

theorem zz_isnormal_String (v : ByteArray) (w : World) : Calls Tryz.prog 19 #[.string v] w fun e w' => e = .returned (.tuple #[.bool (false), .bool true]) ∧ w = w' := by
  go_enter Tryz.func19, Tryz.ntmps19
  go_wp2_with ((go_at_call 44; refine (isnormal_s _ _).mono ?_; rintro e w' ⟨rfl, rfl⟩))
  go_ret2
  exact ⟨rfl, rfl⟩

theorem zz_isnormal_Bool (v : Bool) (w : World) : Calls Tryz.prog 20 #[.bool v] w fun e w' => e = .returned (.tuple #[.bool (false), .bool true]) ∧ w = w' := by
  go_enter Tryz.func20, Tryz.ntmps20
  go_wp2_with ((go_at_call 44; refine (isnormal_b _ _).mono ?_; rintro e w' ⟨rfl, rfl⟩))
  go_ret2
  exact ⟨rfl, rfl⟩

theorem zz_isnormal_Nil (w : World) : Calls Tryz.prog 21 #[] w fun e w' => e = .returned (.tuple #[.bool (false), .bool true]) ∧ w = w' := by
  go_enter Tryz.func21, Tryz.ntmps21
  go_wp2_with ((go_at_call 44; refine (isnormal_n _).mono ?_; rintro e w' ⟨rfl, rfl⟩))
  go_ret2
  exact ⟨rfl, rfl⟩

end Go.Proofs.YtcidgldfccjkbaaGreatDoor
