/- Contracts: gotime's fields of an instant, and the two civil functions of the law. -/
import Derived.Test.YtclopknkophfkaaGreatDoorFacts
import Derived.Test.YtclopknkophfkaaGreatDoorCivil
import Derived.Laws.BitsAllLaws
import Derived.Handy
import Derived.WalkSmall
import Derived.Lib.Hide
import Derived.IntWalk
namespace Go.Proofs.YtclopknkophfkaaGreatDoor
open Go.RowKit

theorem ret_intE {k : IntKind} {a b : Int} (h : a = b) : Ending.returned (.int k a) = .returned (.int k b) := by rw [h]
theorem ret_int2 {k l : IntKind} {a b c d : Int} (h1 : a = b) (h2 : c = d) : Ending.returned (.tuple #[.int k a, .int l c]) = .returned (.tuple #[.int k b, .int l d]) := by rw [h1, h2]
theorem ret_int3 {k l m : IntKind} {a b c d e f : Int} (h1 : a = b) (h2 : c = d) (h3 : e = f) : Ending.returned (.tuple #[.int k a, .int l c, .int m e]) = .returned (.tuple #[.int k b, .int l d, .int m f]) := by rw [h1, h2, h3]
theorem u_of_wrap (x : Int) (h0 : 0 ≤ x) (h1 : x < 18446744073709551616) : IntKind.u64.wrap (wrap64 x) = x := by
  unfold wrap64
  rw [IntKind.wrap_u64]
  omega
theorem i_of_uwrap (x : Int) (h0 : -9223372036854775808 ≤ x) (h1 : x ≤ 9223372036854775807) : wrap64 (IntKind.u64.wrap x) = x := by
  unfold wrap64
  rw [IntKind.wrap_u64]
  omega
theorem top_off (n : Nat) (h : n < 9223372036854775808) : bits .and .u64 (n : Int) 9223372036854775808 = 0 := by
  have e := u64_and_nat n 9223372036854775808 (by omega) (by decide)
  have e0 : n &&& 9223372036854775808 = 0 := by
    apply Nat.eq_of_testBit_eq
    intro i
    rw [Nat.testBit_and, show (9223372036854775808 : Nat) = 2 ^ 63 from by decide, Nat.testBit_two_pow, Nat.zero_testBit]
    by_cases c : 63 = i
    · subst c; rw [Nat.testBit_lt_two_pow (by simpa using h)]; rfl
    · simp [c]
  rw [e0] at e
  exact e
theorem low30 (n : Nat) (h : n < 1073741824) : bits .and .u64 (n : Int) 1073741823 = (n : Int) := by
  have e := u64_and_nat n 1073741823 (by omega) (by decide)
  have e2 : (1073741823 : Nat) = 2 ^ 30 - 1 := by decide
  have e3 : n &&& 1073741823 = n := by rw [e2, Nat.and_two_pow_sub_one_eq_mod]; exact Nat.mod_eq_of_lt (by simpa using h)
  rw [e3] at e
  exact e
theorem low16 (n : Nat) (h : n < 4294967296) : bits .and .u32 (n : Int) 65535 = ((n % 65536 : Nat) : Int) := by
  have e := u32_and_nat n 65535 h (by decide)
  have e2 : (65535 : Nat) = 2 ^ 16 - 1 := by decide
  have e3 : n &&& 65535 = n % 65536 := by rw [e2, Nat.and_two_pow_sub_one_eq_mod]
  rw [e3] at e
  exact e
theorem or3 (n : Nat) (h : n < 4294967296) : bits .or .u32 (n : Int) 3 = ((4 * (n / 4) + 3 : Nat) : Int) := by
  have e := u32_or_nat n 3 h (by decide)
  have e3 : n ||| 3 = 4 * (n / 4) + 3 := by
    have h1 : (n ||| 3) / 2 ^ 2 = n / 2 ^ 2 ||| 3 / 2 ^ 2 := Nat.or_div_two_pow
    have h2 : (n ||| 3) % 2 ^ 2 = (n % 2 ^ 2) ||| (3 % 2 ^ 2) := Nat.or_mod_two_pow
    have h3 : ∀ r : Fin 4, r.val ||| 3 = 3 := by decide
    have h4 : n % 4 ||| 3 = 3 := h3 ⟨n % 4, Nat.mod_lt _ (by decide)⟩
    have h5 : (n ||| 3) / 4 = n / 4 := by simpa using h1
    have h6 : (n ||| 3) % 4 = 3 := by
      have : (n ||| 3) % 4 = (n % 4) ||| 3 := by simpa using h2
      rw [this, h4]
    omega
  rw [e3] at e
  exact e

/-- The seconds of an instant since the absolute epoch. -/
theorem absSec_any (ns : Nat) (E : Int) (hn : ns < 1073741824) (h1 : -20000000000000 ≤ E) (h2 : E ≤ 20000000000000) (w : World) :
    Calls Tryz.prog 150 #[.agg #[.int .u64 ns, .int .i64 E, .pointer none]] w
      fun e w' => e = .returned (.int .u64 (E - 62135596800 + 9223372028741760000)) ∧ Below w.heap.size w w' := by
  have hb := top_off ns (by omega)
  go_enter Tryz.func150, Tryz.ntmps150
  go_wp2_with go_in
  go_ret
  refine ⟨ret_intE ?_, by go_grown⟩
  rw [u_of_wrap _ (by omega) (by omega)]
  omega
theorem mul32_any (Q : Nat) (h : Q < 146100) (w : World) :
    Calls Tryz.prog 188 #[.int .u32 2939745, .int .u32 Q] w fun e w' => e = .returned (.tuple #[.int .u32 ((Q / 1461 : Nat) : Int), .int .u32 ((2939745 * Q % 4294967296 : Nat) : Int)]) ∧ w = w' := by
  have e1 := Lib.hid (Civil.mul32 Q h).1
  go_enter Tryz.func188, Tryz.ntmps188
  go_wp2
  go_ret2
  exact ⟨ret_int2 (by have := e1.out; omega) (by omega), rfl⟩
theorem split_any (d : Nat) (h : d < 300000000000000) (w : World) :
    Calls Tryz.prog 152 #[.int .u64 d] w
      fun e w' => e = .returned (.tuple #[.int .u64 (Civil.cent d : Nat), .int .i64 (Civil.cyear d : Nat), .int .i64 (Civil.ayday d : Nat)]) ∧ w = w' := by
  obtain ⟨r, hr⟩ : ∃ r, r = (4 * d + 3) % 146097 := ⟨_, rfl⟩
  have e0 : (4 * (d : Int) + 3) % 146097 = (r : Int) := by omega
  have e1 := or3 r (by omega)
  obtain ⟨Q, hQ⟩ : ∃ Q, Q = 4 * (r / 4) + 3 := ⟨_, rfl⟩
  rw [← hQ] at e1
  have hQl : Q < 146100 := by omega
  have M := mul32_any Q hQl
  have HM := Lib.hid M
  have HQ := Lib.hid hQ
  have HR := Lib.hid hr
  have b0 : (r : Int) < 146097 := by omega
  clear M hQ hr
  go_enter Tryz.func152, Tryz.ntmps152
  go_wp2_with (go_at_call 188; refine (HM.out _).mono ?_; rintro e w' ⟨rfl, rfl⟩)
  go_ret3
  refine ⟨ret_int3 ?_ ?_ ?_, rfl⟩
  · unfold Civil.cent; omega
  · have h1 := HQ.out
    have h2 := HR.out
    unfold Civil.cyear Civil.cday
    rw [← h2, ← h1]; omega
  · have h1 := HQ.out
    have h2 := HR.out
    have h3 := (Civil.mul32 Q hQl).2
    unfold Civil.ayday Civil.cday
    rw [← h2, ← h1, ← h3]; simp
def jfN (y : Nat) : Nat := if 306 ≤ y then 1 else 0
theorem janFeb_any (y : Nat) (w : World) : Calls Tryz.prog 153 #[.int .i64 y] w fun e w' => e = .returned (.int .i64 (jfN y)) ∧ w = w' := by
  by_cases c : 306 ≤ y
  · have r : ((jfN y : Nat) : Int) = 1 := by rw [show jfN y = 1 from if_pos c]; rfl
    rw [r]
    have hi : (306 : Int) ≤ (y : Int) := by omega
    clear r c
    go_enter Tryz.func153, Tryz.ntmps153
    go_wp2
    go_ret
    exact ⟨rfl, rfl⟩
  · have r : ((jfN y : Nat) : Int) = 0 := by rw [show jfN y = 0 from if_neg c]; rfl
    rw [r]
    have hi : ¬ (306 : Int) ≤ (y : Int) := by omega
    clear r c
    go_enter Tryz.func153, Tryz.ntmps153
    go_wp2
    go_ret
    exact ⟨rfl, rfl⟩
theorem year_any (c cy jf : Nat) (h1 : c < 10000000000) (h2 : cy < 100) (h3 : jf ≤ 1) (w : World) :
    Calls Tryz.prog 154 #[.int .u64 c, .int .i64 cy, .int .i64 jf] w fun e w' => e = .returned (.int .i64 ((c : Int) * 100 - 292277022400 + cy + jf)) ∧ w = w' := by
  have e0 := i_of_uwrap ((c : Int) * 100 - 292277022400) (by omega) (by omega)
  go_enter Tryz.func154, Tryz.ntmps154
  go_wp2
  go_ret
  exact ⟨rfl, rfl⟩
theorem ysplit_any (y : Nat) (h : y < 366) (w : World) :
    Calls Tryz.prog 155 #[.int .i64 y] w
      fun e w' => e = .returned (.tuple #[.int .i64 (((2141 * y + 197913) / 65536 : Nat) : Int), .int .i64 ((1 + (2141 * y + 197913) % 65536 / 2141 : Nat) : Int)]) ∧ w = w' := by
  have e1 := low16 (2141 * y + 197913) (by omega)
  have e2 : ((2141 * y + 197913 : Nat) : Int) = 2141 * (y : Int) + 197913 := by omega
  rw [e2] at e1
  go_enter Tryz.func155, Tryz.ntmps155
  go_wp2
  go_ret2
  exact ⟨ret_int2 (by simp) (by simp), rfl⟩
theorem month_any (m jf : Nat) (h1 : m < 20) (h2 : jf ≤ 1) (w : World) :
    Calls Tryz.prog 156 #[.int .i64 m, .int .i64 jf] w fun e w' => e = .returned (.int .i64 ((m : Int) - (jf : Int) * 12)) ∧ w = w' := by
  go_enter Tryz.func156, Tryz.ntmps156
  go_wp2
  go_ret
  exact ⟨rfl, rfl⟩
def leapN (c cy : Nat) : Nat := if cy % 4 = 0 ∧ (cy ≠ 0 ∨ c % 4 = 0) then 1 else 0
theorem bits01 : bits .or .i64 0 0 = 0 ∧ bits .or .i64 0 1 = 1 ∧ bits .or .i64 1 0 = 1 ∧ bits .or .i64 1 1 = 1 ∧ bits .and .i64 0 0 = 0 ∧ bits .and .i64 0 1 = 0 ∧ bits .and .i64 1 0 = 0 ∧ bits .and .i64 1 1 = 1 ∧
    bits .andNot .i64 0 0 = 0 ∧ bits .andNot .i64 0 1 = 0 ∧ bits .andNot .i64 1 0 = 1 ∧ bits .andNot .i64 1 1 = 0 := by decide +kernel
theorem leap_any (c cy : Nat) (h1 : c < 10000000000) (h2 : cy < 100) (w : World) : Calls Tryz.prog 190 #[.int .u64 c, .int .i64 cy] w fun e w' => e = .returned (.int .i64 (leapN c cy)) ∧ w = w' := by
  obtain ⟨o1, o2, o3, o4, a1, a2, a3, a4, n1, n2, n3, n4⟩ := bits01
  by_cases c1 : cy % 4 = 0
  · by_cases c2 : cy = 0
    · subst c2
      by_cases c3 : c % 4 = 0
      · have r : ((leapN c 0 : Nat) : Int) = 1 := by
          rw [show leapN c 0 = 1 from if_pos ⟨c1, Or.inr c3⟩]; rfl
        rw [r]
        have t3 : ((c : Int) % 4 == 0) = true := by simp; omega
        clear r c3
        go_enter Tryz.func190, Tryz.ntmps190
        go_wp2
        go_ret
        exact ⟨rfl, rfl⟩
      · have r : ((leapN c 0 : Nat) : Int) = 0 := by
          rw [show leapN c 0 = 0 from if_neg fun h => by rcases h.2 with h | h; exact h rfl; exact c3 h]; rfl
        rw [r]
        have t3 : ((c : Int) % 4 == 0) = false := by simp; omega
        clear r c3
        go_enter Tryz.func190, Tryz.ntmps190
        go_wp2
        go_ret
        exact ⟨rfl, rfl⟩
    · have r : ((leapN c cy : Nat) : Int) = 1 := by
          rw [show leapN c cy = 1 from if_pos ⟨c1, Or.inl c2⟩]; rfl
      rw [r]
      have t1 : ((cy : Int) % 4 == 0) = true := by simp; omega
      have t2 : ((cy : Int) == 0) = false := by simp; omega
      have t2' : ((cy : Int) != 0) = true := by simp; omega
      clear r c1 c2
      by_cases c3 : c % 4 = 0
      · have t3 : ((c : Int) % 4 == 0) = true := by simp; omega
        clear c3
        go_enter Tryz.func190, Tryz.ntmps190
        go_wp2
        go_ret
        exact ⟨rfl, rfl⟩
      · have t3 : ((c : Int) % 4 == 0) = false := by simp; omega
        clear c3
        go_enter Tryz.func190, Tryz.ntmps190
        go_wp2
        go_ret
        exact ⟨rfl, rfl⟩
  · have r : ((leapN c cy : Nat) : Int) = 0 := by
          rw [show leapN c cy = 0 from if_neg fun h => c1 h.1]; rfl
    rw [r]
    have t1 : ((cy : Int) % 4 == 0) = false := by simp; omega
    have t2 : ((cy : Int) == 0) = false := by simp; omega
    have t2' : ((cy : Int) != 0) = true := by simp; omega
    clear r c1
    by_cases c3 : c % 4 = 0
    · have t3 : ((c : Int) % 4 == 0) = true := by simp; omega
      clear c3
      go_enter Tryz.func190, Tryz.ntmps190
      go_wp2
      go_ret
      exact ⟨rfl, rfl⟩
    · have t3 : ((c : Int) % 4 == 0) = false := by simp; omega
      clear c3
      go_enter Tryz.func190, Tryz.ntmps190
      go_wp2
      go_ret
      exact ⟨rfl, rfl⟩
theorem leap_le (c cy : Nat) : leapN c cy ≤ 1 := by unfold leapN; split <;> omega
theorem jf_le (y : Nat) : jfN y ≤ 1 := by unfold jfN; split <;> omega
/-- The day of the year, from 1. -/
def ydayZ (y jf lp : Nat) : Int := (y : Int) + 60 + (if jf = 0 then (lp : Int) else 0) - 365 * (jf : Int)
theorem yday_any (y jf lp : Nat) (h1 : y < 366) (h2 : jf ≤ 1) (h3 : lp ≤ 1) (w : World) :
    Calls Tryz.prog 189 #[.int .i64 y, .int .i64 jf, .int .i64 lp] w fun e w' => e = .returned (.int .i64 (ydayZ y jf lp)) ∧ w = w' := by
  obtain ⟨o1, o2, o3, o4, a1, a2, a3, a4, n1, n2, n3, n4⟩ := bits01
  have hj : jf = 0 ∨ jf = 1 := by omega
  have hl : lp = 0 ∨ lp = 1 := by omega
  rcases hj with rfl | rfl <;> rcases hl with rfl | rfl
  all_goals
    go_enter Tryz.func189, Tryz.ntmps189
    go_wp2
    go_ret
    exact ⟨ret_intE (by unfold ydayZ; simp; try omega), rfl⟩
end Go.Proofs.YtclopknkophfkaaGreatDoor
