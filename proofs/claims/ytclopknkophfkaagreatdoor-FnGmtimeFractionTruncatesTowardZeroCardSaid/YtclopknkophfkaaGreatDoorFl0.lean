/- Contracts: what toFloat, math.Abs, math.IsInf, math.IsNaN and the functions isnormal, isinfinite, isfinite, isnan, nan answer. -/
import Derived.Test.YtclopknkophfkaaGreatDoorFacts
import Derived.Test.YtclopknkophfkaaGreatDoorFloatNear
import Derived.Laws.BitsAllLaws
namespace Go.Proofs.YtclopknkophfkaaGreatDoor
open Go.RowKit

@[go_sem] theorem f64bits (b : Nat) (w : World) : (callFunc 267 #[.float .f64 b]).run Tryz.prog w = .ok (.value (.int .u64 b)) w := by kernel_rfl
@[go_sem] theorem f64from (n : Int) (w : World) : (callFunc 111 #[.int .u64 n]).run Tryz.prog w = .ok (.value (.float .f64 n.toNat)) w := by kernel_rfl


theorem abs_bits (b : Nat) (h : b < 18446744073709551616) : bits .andNot .u64 (b : Int) 9223372036854775808 = ((FloatKey.rung b : Nat) : Int) := by
  have e := u64_andNot_nat b 9223372036854775808 h (by decide)
  have e2 : (18446744073709551615 - 9223372036854775808 : Nat) = 2 ^ 63 - 1 := by decide
  rw [e2, Nat.and_two_pow_sub_one_eq_mod] at e
  exact e
theorem exp_bits (b : Nat) (h : b < 18446744073709551616) : bits .and .u64 (b : Int) 9218868437227405312 / 4503599627370496 = ((FloatKey.rung b / 4503599627370496 : Nat) : Int) := by
  have e := u64_and_nat b 9218868437227405312 h (by decide)
  have e' : bits .and .u64 (b : Int) 9218868437227405312 = ((b &&& 9218868437227405312 : Nat) : Int) := e
  rw [e']
  have e2 : (b &&& 9218868437227405312) / 2 ^ 52 = b / 2 ^ 52 &&& 9218868437227405312 / 2 ^ 52 := Nat.and_div_two_pow
  have e3 : (9218868437227405312 : Nat) / 2 ^ 52 = 2 ^ 11 - 1 := by decide
  rw [e3, Nat.and_two_pow_sub_one_eq_mod] at e2
  have e4 : (b &&& 9218868437227405312) / 4503599627370496 = FloatKey.rung b / 4503599627370496 := by
    have e5 : (b &&& 9218868437227405312) / 4503599627370496 = b / 4503599627370496 % 2048 := e2
    rw [e5]; unfold FloatKey.rung; omega
  omega
theorem inf_test (b : Nat) : (FloatKind.f64.format.order (FloatKey.rung b) 9218868437227405311 == some .gt) = FloatKey.isInf b := by
  have e := FloatKey.gt_key (FloatKey.rung b) 9218868437227405311
  have r0 : FloatKey.rung b < 9223372036854775808 := Nat.mod_lt _ (by decide)
  have r1 : FloatKey.rung (FloatKey.rung b) = FloatKey.rung b := Nat.mod_eq_of_lt r0
  have s1 : FloatKey.sgn (FloatKey.rung b) = false := by unfold FloatKey.sgn; rw [Nat.div_eq_of_lt r0]; rfl
  have k1 : FloatKey.key (FloatKey.rung b) = (FloatKey.rung b : Int) := by unfold FloatKey.key; rw [r1, s1]; rfl
  have k2 : FloatKey.key 9218868437227405311 = 9218868437227405311 := by decide
  have n2 : FloatKey.isNaN 9218868437227405311 = false := by decide
  rw [k1, k2, n2] at e
  refine e.trans ?_
  unfold FloatKey.isNaN FloatKey.isInf
  rw [r1, Bool.eq_iff_iff]
  simp
  omega
theorem nan_test (b : Nat) : (FloatKind.f64.format.order b b != some .eq) = FloatKey.isNaN b := by
  have e := FloatKey.eq_self b
  show (!(Ieee.double.order b b == some .eq)) = _
  rw [e]; simp

def isNormal (b : Nat) : Bool := decide (4503599627370496 ≤ FloatKey.rung b ∧ FloatKey.rung b < 9218868437227405312)

/-- The float of an int: its word is small, no NaN, no infinity, normal where the int is not nought. -/
theorem ofInt_facts (n : Int) (hn : (Lit.int .i64 n).wf = true) : floatOfInt .f64 n < 18446744073709551616 ∧ FloatKey.rung (floatOfInt .f64 n) < 9218868437227405312 ∧ isNormal (floatOfInt .f64 n) = (n != 0) := by
  have hb : -9223372036854775808 ≤ n ∧ n ≤ 9223372036854775807 := by simpa [Lit.wf, IntKind.min, IntKind.max, IntKind.signed, IntKind.bits] using hn
  have e : floatOfInt .f64 n = Ieee.double.nearest (decide (n < 0)) n.natAbs 0 := rfl
  rw [e]
  by_cases h0 : n = 0
  · subst h0; decide
  · obtain ⟨kept, hk, k1, k2, k3, _⟩ := FloatKey.nearest_int (decide (n < 0)) n.natAbs (by omega) (by omega)
    rw [hk]
    have hr := FloatKey.rung_word (decide (n < 0)) ((n.natAbs.log2 + 1022) * 4503599627370496 + kept) (by omega)
    refine ⟨?_, by rw [hr.1]; omega, ?_⟩
    · unfold Ieee.Format.word
      rw [FloatKey.d_sign]
      split <;> omega
    · unfold isNormal
      rw [hr.1]
      have : (n != 0) = true := by simpa using h0
      rw [this]
      simp
      omega
theorem ofInt_inf (n : Int) (hn : (Lit.int .i64 n).wf = true) : FloatKey.isInf (floatOfInt .f64 n) = false := by
  have := (ofInt_facts n hn).2.1
  unfold FloatKey.isInf; simp; omega
theorem ofInt_nan (n : Int) (hn : (Lit.int .i64 n).wf = true) : FloatKey.isNaN (floatOfInt .f64 n) = false := by
  have := (ofInt_facts n hn).2.1
  unfold FloatKey.isNaN; simp; omega
theorem wf_float (b : Nat) (h : (Lit.float .f64 b).wf = true) : b < 18446744073709551616 := by simpa [Lit.wf] using h


theorem toFloat_f (v : Nat) (w : World) : Calls Tryz.prog 73 #[.iface 37 (.float .f64 v)] w fun e w' => e = .returned (.tuple #[.float .f64 v, .bool true]) ∧ w = w' := by
  go_enter Tryz.func73, Tryz.ntmps73
  go_wp2
  go_ret2
  exact ⟨rfl, rfl⟩

theorem toFloat_i (n : Int) (w : World) : Calls Tryz.prog 73 #[.iface 3 (.int .i64 n)] w fun e w' => e = .returned (.tuple #[.float .f64 (floatOfInt .f64 n), .bool true]) ∧ w = w' := by
  go_enter Tryz.func73, Tryz.ntmps73
  go_wp2
  go_ret2
  exact ⟨rfl, rfl⟩

theorem toFloat_s (v : Value) (w : World) : Calls Tryz.prog 73 #[.iface 9 v] w fun e w' => e = .returned (.tuple #[.float .f64 0, .bool false]) ∧ w = w' := by
  go_enter Tryz.func73, Tryz.ntmps73
  go_wp2
  go_ret2
  exact ⟨rfl, rfl⟩

theorem toFloat_b (v : Value) (w : World) : Calls Tryz.prog 73 #[.iface 4 v] w fun e w' => e = .returned (.tuple #[.float .f64 0, .bool false]) ∧ w = w' := by
  go_enter Tryz.func73, Tryz.ntmps73
  go_wp2
  go_ret2
  exact ⟨rfl, rfl⟩

theorem toFloat_n (w : World) : Calls Tryz.prog 73 #[.nilIface] w fun e w' => e = .returned (.tuple #[.float .f64 0, .bool false]) ∧ w = w' := by
  go_enter Tryz.func73, Tryz.ntmps73
  go_wp2
  go_ret2
  exact ⟨rfl, rfl⟩

theorem abs_any (b : Nat) (h : b < 18446744073709551616) (w : World) : Calls Tryz.prog 218 #[.float .f64 b] w fun e w' => e = .returned (.float .f64 (FloatKey.rung b)) ∧ w = w' := by
  have e := abs_bits b h
  go_enter Tryz.func218, Tryz.ntmps218
  go_wp2
  go_ret
  exact ⟨rfl, rfl⟩

theorem isInf_any (b : Nat) (h : b < 18446744073709551616) (w : World) : Calls Tryz.prog 182 #[.float .f64 b, .int .i64 0] w fun e w' => e = .returned (.bool (FloatKey.isInf b)) ∧ w = w' := by
  have e := inf_test b
  go_enter Tryz.func182, Tryz.ntmps182
  go_wp2_with (go_at_call 218; refine (abs_any _ h _).mono ?_; rintro e w' ⟨rfl, rfl⟩)
  go_ret
  exact ⟨rfl, rfl⟩

theorem isNaN_any (b : Nat) (w : World) : Calls Tryz.prog 90 #[.float .f64 b] w fun e w' => e = .returned (.bool (FloatKey.isNaN b)) ∧ w = w' := by
  have e := nan_test b
  go_enter Tryz.func90, Tryz.ntmps90
  go_wp2
  go_ret
  exact ⟨rfl, rfl⟩
end Go.Proofs.YtclopknkophfkaaGreatDoor
