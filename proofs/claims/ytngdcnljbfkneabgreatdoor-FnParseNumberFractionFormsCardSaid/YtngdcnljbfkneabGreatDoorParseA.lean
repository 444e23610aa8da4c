/- Contracts: the helpers of strconv's float parsing (unrounded scaling). -/
import Derived.Test.YtngdcnljbfkneabGreatDoorBitsFn
import Derived.Test.YtngdcnljbfkneabGreatDoorFloatNear
import Derived.Deep.QuietTactic
import Derived.BigQuiet
import Derived.Handy
import Derived.Deep.RegionWith
import Derived.Lib.Hide
namespace Go.Proofs.YtngdcnljbfkneabGreatDoor
open Go.RowKit

@[go_sem] theorem sf64from (n : Int) (w : World) : (callFunc 102 #[.int .u64 n]).run Tryz.prog w = .ok (.value (.float .f64 n.toNat)) w := by kernel_rfl

theorem b2u (b : Bool) (w : World) : Calls Tryz.prog 101 #[.bool b] w fun e w' => e = .returned (.int .u64 (if b then 1 else 0)) ∧ w = w' := by
  cases b
  all_goals
    go_enter Tryz.func101, Tryz.ntmps101
    go_wp2
    go_ret
    exact ⟨rfl, rfl⟩
theorem b2i (b : Bool) (w : World) : Calls Tryz.prog 141 #[.bool b] w fun e w' => e = .returned (.int .i64 (if b then 1 else 0)) ∧ w = w' := by
  cases b
  all_goals
    go_enter Tryz.func141, Tryz.ntmps141
    go_wp2
    go_ret
    exact ⟨rfl, rfl⟩
theorem unmin53 (w : World) : Calls Tryz.prog 142 #[.int .u64 9007199254740992] w fun e w' => e = .returned (.int .u64 36028797018963966) ∧ w = w' := by
  go_enter Tryz.func142, Tryz.ntmps142
  go_wp2
  go_ret
  exact ⟨rfl, rfl⟩
theorem log2Pow10_0 (w : World) : Calls Tryz.prog 138 #[.int .i64 0] w fun e w' => e = .returned (.int .i64 0) ∧ w = w' := by
  go_enter Tryz.func138, Tryz.ntmps138
  go_wp2
  go_ret
  exact ⟨rfl, rfl⟩
theorem log2Pow10_1 (w : World) : Calls Tryz.prog 138 #[.int .i64 (-1)] w fun e w' => e = .returned (.int .i64 (-4)) ∧ w = w' := by
  go_enter Tryz.func138, Tryz.ntmps138
  go_wp2
  go_ret
  exact ⟨rfl, rfl⟩
theorem log2Pow10_3 (w : World) : Calls Tryz.prog 138 #[.int .i64 (-3)] w fun e w' => e = .returned (.int .i64 (-10)) ∧ w = w' := by
  go_enter Tryz.func138, Tryz.ntmps138
  go_wp2
  go_ret
  exact ⟨rfl, rfl⟩
theorem and1 (a : Nat) (ha : a < 18446744073709551616) : bits .and .u64 (a : Int) 1 = ((a % 2 : Nat) : Int) := by
  have h := u64_and_nat a 1 ha (by decide)
  have e : a &&& 1 = a % 2 := Nat.and_two_pow_sub_one_eq_mod a 1
  rw [e] at h
  exact h
theorem round_any (u : Nat) (hu : u < 18446744073709551614) (w : World) :
    Calls Tryz.prog 144 #[.int .u64 u] w fun e w' => e = .returned (.int .u64 (((u + 1 + u / 4 % 2) / 4 : Nat) : Int)) ∧ w = w' := by
  have h1 : bits .and .u64 ((u : Int) / 4) 1 = ((u / 4 % 2 : Nat) : Int) := by
    have := and1 (u / 4) (by omega)
    rw [Int.natCast_ediv] at this
    exact this
  go_enter Tryz.func144, Tryz.ntmps144
  go_wp2
  go_ret
  exact ⟨congrArg Ending.returned (congrArg (Value.int IntKind.u64) (by omega)), rfl⟩
theorem quiet_of_eq {P : Program} {f : FuncId} {args : Array Value} {w : World} {n : Nat} {v : Value}
    (h : Calls P f args (w.drewN n) fun e w' => e = .returned v ∧ w.drewN n = w') : Calls P f args (w.drewN n) fun e w'' => e = .returned v ∧ ∃ m, w'' = w.drewN m :=
  h.mono fun _ _ ⟨he, hm⟩ => ⟨he, n, hm.symm⟩
theorem mul64_named (x y H M : Nat) (hx : x < 18446744073709551616) (hy : y < 18446744073709551616) (h1 : x * y / 18446744073709551616 = H) (h2 : x * y % 18446744073709551616 = M) (w : World) :
    Calls Tryz.prog 166 #[.int .u64 x, .int .u64 y] w fun e w' => e = .returned (.tuple #[.int .u64 (H : Int), .int .u64 (M : Int)]) ∧ w = w' := by
  subst h1; subst h2; exact mul64_any x y hx hy w
theorem or1 (a : Nat) (ha : a < 18446744073709551616) : bits .or .u64 (a : Int) 1 = ((a / 2 * 2 + 1 : Nat) : Int) := by
  have h := u64_or_nat a 1 ha (by decide)
  have e : a ||| 1 = a / 2 * 2 + 1 := by
    have e1 : (a ||| 1) / 2 = a / 2 ||| 1 / 2 := Nat.or_div_two_pow (n := 1)
    have e2 : (a ||| 1) % 2 = a % 2 ||| 1 % 2 := Nat.or_mod_two_pow (n := 1)
    have e3 : a / 2 ||| 1 / 2 = a / 2 := by simp
    have e4 : a % 2 ||| 1 % 2 = 1 := by
      have : a % 2 = 0 ∨ a % 2 = 1 := by omega
      rcases this with h | h <;> rw [h] <;> decide
    rw [e3] at e1; rw [e4] at e2
    omega
  rw [e] at h
  exact h
set_option maxHeartbeats 1000000 in
theorem uscale_sticky (x hi H M b : Nat) (hx : x < 18446744073709551616) (hh : hi < 18446744073709551616) (h1 : Hid (x * hi / 18446744073709551616 = H)) (h2 : Hid (x * hi % 18446744073709551616 = M))
    (hH : H < 18446744073709551616) (hs : H % 256 ≠ 0) (w : World) (c0 : w.cell? ⟨b, 0, none⟩ = some (.int .u64 (hi : Int))) (c2 : w.cell? ⟨b, 2, none⟩ = some (.int .i64 8)) :
    Calls Tryz.prog 140 #[.int .u64 x, .pointer (some ⟨b, 0, none⟩)] w fun e w' => e = .returned (.int .u64 ((H / 512 * 2 + 1 : Nat) : Int)) ∧ ∃ n, w' = w.drewN n := by
  have h63 : bits BinOp.and IntKind.i64 8 63 = 8 := by decide
  have ho : bits .or .u64 ((H : Int) / 256) 1 = ((H / 256 / 2 * 2 + 1 : Nat) : Int) := or1 (H / 256) (by omega)
  have e2 : H / 256 / 2 = H / 512 := by omega
  rw [e2] at ho
  have t : ((H : Int) / 256 * 256 != (H : Int)) = true := by simp; omega
  clear e2
  go_enter Tryz.func140, Tryz.ntmps140
  go_wp2_with (first | (go_at_call 166; refine (mul64_named _ _ H M hx hh h1.out h2.out _).mono ?_; rintro e w' ⟨rfl, rfl⟩))
  go_ret
  exact ⟨congrArg Ending.returned (congrArg (Value.int IntKind.u64) (by omega)), 0, rfl⟩
set_option maxHeartbeats 1000000 in
/-- The scaled value where nothing is left over but one unit at most. -/
theorem uscale_exact (x hi lo H M M2 L2 b : Nat) (hx : x < 18446744073709551616) (hh : hi < 18446744073709551616) (hl : lo < 18446744073709551616) (h1 : Hid (x * hi / 18446744073709551616 = H)) (h2 : Hid (x * hi % 18446744073709551616 = M))
    (h3 : Hid (x * lo / 18446744073709551616 = M2)) (h4 : Hid (x * lo % 18446744073709551616 = L2)) (hH : H < 18446744073709551616) (hs : H % 256 = 0) (hM2 : M2 ≤ M) (hM1 : M ≤ M2 + 1) (w : World)
    (c0 : w.cell? ⟨b, 0, none⟩ = some (.int .u64 (hi : Int))) (c1 : w.cell? ⟨b, 1, none⟩ = some (.int .u64 (lo : Int))) (c2 : w.cell? ⟨b, 2, none⟩ = some (.int .i64 8)) :
    Calls Tryz.prog 140 #[.int .u64 x, .pointer (some ⟨b, 0, none⟩)] w fun e w' => e = .returned (.int .u64 ((H / 256 : Nat) : Int)) ∧ ∃ n, w' = w.drewN n := by
  have h63 : bits BinOp.and IntKind.i64 8 63 = 8 := by decide
  have ho : bits .or .u64 ((H : Int) / 256) 0 = (H : Int) / 256 := by
    have := u64_or_nat (H / 256) 0 (by omega) (by decide)
    rw [Nat.or_zero, Int.natCast_ediv] at this
    exact this
  have t : ((H : Int) / 256 * 256 != (H : Int)) = false := by simp; omega
  have t2 : decide ((M : Int) < (M2 : Int)) = false := by simp; omega
  have t3 : decide ((1 : Int) < (M : Int) - (M2 : Int)) = false := by simp; omega
  have hs' := Lib.hid hs
  clear hs
  go_enter Tryz.func140, Tryz.ntmps140
  go_wp2_with (first | (go_at_call_of 166 (Value.int IntKind.u64 (hi : Int)); refine (mul64_named _ _ H M hx hh h1.out h2.out _).mono ?_; rintro e w' ⟨rfl, rfl⟩) | (go_at_call_of 166 (Value.int IntKind.u64 (lo : Int)); refine (mul64_named _ _ M2 L2 hx hl h3.out h4.out _).mono ?_; rintro e w' ⟨rfl, rfl⟩) | (go_at_call 101; refine (b2u _ _).mono ?_; rintro e w' ⟨rfl, rfl⟩))
  go_quiet ((go_at_call 101; exact quiet_of_eq (b2u _ _)))
  go_wp2
  go_ret
  exact ⟨rfl, nq, rfl⟩
end Go.Proofs.YtngdcnljbfkneabGreatDoor
