/- Contracts: math/bits.Mul64 (the 128-bit product) and math/bits.Len64 (the number of bits); the small helpers of strconv's float parsing. -/
import Derived.Test.YtngdcnljbfkneabGreatDoorFacts
import Derived.Lib.Strings
import Derived.Lib.Slices
import Derived.Lib.Small
import Derived.Lib.Walk
import Derived.Lib.BitFns
import Derived.Lib.Mul64
import Derived.Lib.Hide
import Derived.Laws.BitsAllLaws
namespace Go.Proofs.YtngdcnljbfkneabGreatDoor
open Go.RowKit
namespace Mu
theorem mask (a : Nat) (ha : a < 18446744073709551616) : bits .and .u64 (a : Int) 4294967295 = ((a % 4294967296 : Nat) : Int) := by
  have h := u64_and_nat a 4294967295 ha (by decide)
  have e : a &&& 4294967295 = a % 4294967296 := Nat.and_two_pow_sub_one_eq_mod a 32
  rw [e] at h
  exact h
theorem div (a : Nat) : (a : Int) / 4294967296 = ((a / 4294967296 : Nat) : Int) := by omega
theorem mul (a b : Nat) : (a : Int) * (b : Int) = ((a * b : Nat) : Int) := (Int.natCast_mul a b).symm
theorem add (a b : Nat) : (a : Int) + (b : Int) = ((a + b : Nat) : Int) := (Int.natCast_add a b).symm
theorem wrap (a : Nat) (ha : a < 18446744073709551616) : IntKind.u64.wrap (a : Int) = (a : Int) := by rw [IntKind.wrap_u64]; omega
theorem wrapm (a : Nat) : IntKind.u64.wrap (a : Int) = ((a % 18446744073709551616 : Nat) : Int) := by rw [IntKind.wrap_u64]; omega
end Mu
set_option maxHeartbeats 1000000 in
theorem mul64_any (x y : Nat) (hx : x < 18446744073709551616) (hy : y < 18446744073709551616) (w : World) :
    Calls Tryz.prog 166 #[.int .u64 x, .int .u64 y] w fun e w' => e = .returned (.tuple #[.int .u64 ((x * y / 18446744073709551616 : Nat) : Int), .int .u64 ((x * y % 18446744073709551616 : Nat) : Int)]) ∧ w = w' := by
  obtain ⟨bd, bt, bw, hhi⟩ := Lib.mul64_hi x y hx hy
  have ba := Lib.half_mul_le (a := x / 4294967296) (b := y / 4294967296) (by omega) (by omega)
  have bb := Lib.half_mul_le (a := x / 4294967296) (b := y % 4294967296) (by omega) (by omega)
  have bc := Lib.half_mul_le (a := x % 4294967296) (b := y / 4294967296) (by omega) (by omega)
  have ba' : x / 4294967296 * (y / 4294967296) < 18446744073709551616 := by omega
  have bb' : x / 4294967296 * (y % 4294967296) < 18446744073709551616 := by omega
  have bc' : x % 4294967296 * (y / 4294967296) < 18446744073709551616 := by omega
  have bh1 : x / 4294967296 * (y / 4294967296) + (x / 4294967296 * (y % 4294967296) + x % 4294967296 * (y % 4294967296) / 4294967296) / 4294967296 < 18446744073709551616 := by omega
  have bh : x / 4294967296 * (y / 4294967296) + (x / 4294967296 * (y % 4294967296) + x % 4294967296 * (y % 4294967296) / 4294967296) / 4294967296 + ((x / 4294967296 * (y % 4294967296) + x % 4294967296 * (y % 4294967296) / 4294967296) % 4294967296 + x % 4294967296 * (y / 4294967296)) / 4294967296 < 18446744073709551616 := by omega
  go_enter Tryz.func166, Tryz.ntmps166
  go_wp2
  simp only [Mu.mask x hx, Mu.mask y hy, Mu.div, Mu.mul, Mu.add, Mu.wrap _ bd, Mu.wrap _ bb', Mu.wrap _ bt, Mu.mask _ bt, Mu.wrap _ bc', Mu.wrap _ bw, Mu.wrap _ ba', Mu.wrap _ bh1, Mu.wrap _ bh, Mu.wrapm (x * y)]
  rw [hhi]
  go_ret2
  exact ⟨rfl, rfl⟩
theorem len8_wrap (e : Int) (k : Int) (h0 : 0 ≤ e) (h1 : e ≤ 255) (hk : 0 ≤ k ∧ k ≤ 56) : wrap64 (k + wrap64 (Lib.len8 e)) = k + (Lib.bitLen e.toNat : Int) := by
  have a := Lib.len8_eq ⟨e.toNat, by omega⟩
  have l := Lib.bitLen_le8 ⟨e.toNat, by omega⟩
  simp only [Int.toNat_of_nonneg h0] at a
  rw [a]
  simp only at l
  unfold wrap64
  omega
set_option maxHeartbeats 1000000 in
theorem len64_any (x : Int) (w : World) (h0 : 0 ≤ x) (h1 : x ≤ 18446744073709551615) :
    Calls Tryz.prog 78 #[.int .u64 x] w fun e w' => e = .returned (.int .i64 (Lib.bitLen x.toNat)) ∧ w = w' := by
  by_cases c1 : 4294967296 ≤ x
  · by_cases c2 : 65536 ≤ x / 4294967296
    · by_cases c3 : 256 ≤ x / 4294967296 / 65536
      · have a0 : 0 ≤ x / 4294967296 / 65536 / 256 := by omega
        have a1 : x / 4294967296 / 65536 / 256 ≤ 255 := by omega
        have r := len8_wrap (x / 4294967296 / 65536 / 256) 56 a0 a1 (by omega)
        have q : (x / 4294967296 / 65536 / 256).toNat = x.toNat / 72057594037927936 := by omega
        have s := Lib.bitLen_shift56 x.toNat (by omega) (by omega)
        rw [q] at r
        have H := Lib.hid r
        clear r
        have H2 := Lib.hid s
        clear s q
        go_enter Tryz.func78, Tryz.ntmps78
        go_wp2
        go_ret
        exact ⟨congrArg Ending.returned (congrArg (Value.int IntKind.i64) (by have r := H.out; have s := H2.out; omega)), rfl⟩
      · have a0 : 0 ≤ x / 4294967296 / 65536 := by omega
        have a1 : x / 4294967296 / 65536 ≤ 255 := by omega
        have r := len8_wrap (x / 4294967296 / 65536) 48 a0 a1 (by omega)
        have q : (x / 4294967296 / 65536).toNat = x.toNat / 281474976710656 := by omega
        have s := Lib.bitLen_shift48 x.toNat (by omega) (by omega)
        rw [q] at r
        have H := Lib.hid r
        clear r
        have H2 := Lib.hid s
        clear s q
        go_enter Tryz.func78, Tryz.ntmps78
        go_wp2
        go_ret
        exact ⟨congrArg Ending.returned (congrArg (Value.int IntKind.i64) (by have r := H.out; have s := H2.out; omega)), rfl⟩
    · by_cases c3 : 256 ≤ x / 4294967296
      · have a0 : 0 ≤ x / 4294967296 / 256 := by omega
        have a1 : x / 4294967296 / 256 ≤ 255 := by omega
        have r := len8_wrap (x / 4294967296 / 256) 40 a0 a1 (by omega)
        have q : (x / 4294967296 / 256).toNat = x.toNat / 1099511627776 := by omega
        have s := Lib.bitLen_shift40 x.toNat (by omega) (by omega)
        rw [q] at r
        have H := Lib.hid r
        clear r
        have H2 := Lib.hid s
        clear s q
        go_enter Tryz.func78, Tryz.ntmps78
        go_wp2
        go_ret
        exact ⟨congrArg Ending.returned (congrArg (Value.int IntKind.i64) (by have r := H.out; have s := H2.out; omega)), rfl⟩
      · have a0 : 0 ≤ x / 4294967296 := by omega
        have a1 : x / 4294967296 ≤ 255 := by omega
        have r := len8_wrap (x / 4294967296) 32 a0 a1 (by omega)
        have q : (x / 4294967296).toNat = x.toNat / 4294967296 := by omega
        have s := Lib.bitLen_shift32 x.toNat (by omega) (by omega)
        rw [q] at r
        have H := Lib.hid r
        clear r
        have H2 := Lib.hid s
        clear s q
        go_enter Tryz.func78, Tryz.ntmps78
        go_wp2
        go_ret
        exact ⟨congrArg Ending.returned (congrArg (Value.int IntKind.i64) (by have r := H.out; have s := H2.out; omega)), rfl⟩
  · by_cases c2 : 65536 ≤ x
    · by_cases c3 : 256 ≤ x / 65536
      · have a0 : 0 ≤ x / 65536 / 256 := by omega
        have a1 : x / 65536 / 256 ≤ 255 := by omega
        have r := len8_wrap (x / 65536 / 256) 24 a0 a1 (by omega)
        have q : (x / 65536 / 256).toNat = x.toNat / 16777216 := by omega
        have s := Lib.bitLen_shift24 x.toNat (by omega) (by omega)
        rw [q] at r
        have H := Lib.hid r
        clear r
        have H2 := Lib.hid s
        clear s q
        go_enter Tryz.func78, Tryz.ntmps78
        go_wp2
        go_ret
        exact ⟨congrArg Ending.returned (congrArg (Value.int IntKind.i64) (by have r := H.out; have s := H2.out; omega)), rfl⟩
      · have a0 : 0 ≤ x / 65536 := by omega
        have a1 : x / 65536 ≤ 255 := by omega
        have r := len8_wrap (x / 65536) 16 a0 a1 (by omega)
        have q : (x / 65536).toNat = x.toNat / 65536 := by omega
        have s := Lib.bitLen_shift16 x.toNat (by omega) (by omega)
        rw [q] at r
        have H := Lib.hid r
        clear r
        have H2 := Lib.hid s
        clear s q
        go_enter Tryz.func78, Tryz.ntmps78
        go_wp2
        go_ret
        exact ⟨congrArg Ending.returned (congrArg (Value.int IntKind.i64) (by have r := H.out; have s := H2.out; omega)), rfl⟩
    · by_cases c3 : 256 ≤ x
      · have a0 : 0 ≤ x / 256 := by omega
        have a1 : x / 256 ≤ 255 := by omega
        have r := len8_wrap (x / 256) 8 a0 a1 (by omega)
        have q : (x / 256).toNat = x.toNat / 256 := by omega
        have s := Lib.bitLen_shift8 x.toNat (by omega) (by omega)
        rw [q] at r
        have H := Lib.hid r
        clear r
        have H2 := Lib.hid s
        clear s q
        go_enter Tryz.func78, Tryz.ntmps78
        go_wp2
        go_ret
        exact ⟨congrArg Ending.returned (congrArg (Value.int IntKind.i64) (by have r := H.out; have s := H2.out; omega)), rfl⟩
      · have a0 : 0 ≤ x := by omega
        have a1 : x ≤ 255 := by omega
        have r := len8_wrap (x) 0 a0 a1 (by omega)
        have H := Lib.hid r
        clear r
        go_enter Tryz.func78, Tryz.ntmps78
        go_wp2
        go_ret
        exact ⟨congrArg Ending.returned (congrArg (Value.int IntKind.i64) (by have r := H.out; rw [Int.zero_add, Int.zero_add] at r; exact r)), rfl⟩
theorem bitLen_log2 (x : Nat) (h0 : 0 < x) (h : x < 18446744073709551616) : Lib.bitLen x = x.log2 + 1 := by
  have key : ∀ (f x : Nat), 0 < x → x < 2 ^ f → Lib.bitLenAux f x = x.log2 + 1 := by
    intro f
    induction f with
    | zero => intro x h0 h1; simp at h1; omega
    | succ f ih =>
      intro x h0 h1
      unfold Lib.bitLenAux
      rw [if_neg (by omega)]
      by_cases hx : x = 1
      · subst hx
        cases f with
        | zero => decide
        | succ f => simp [Lib.bitLenAux]; decide
      · rw [ih (x / 2) (by omega) (by rw [Nat.pow_succ] at h1; omega)]
        rw [Nat.log2_def x, if_pos (by omega)]
        omega
  exact key 64 x h0 (by simpa using h)
end Go.Proofs.YtngdcnljbfkneabGreatDoor
