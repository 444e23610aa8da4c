/- Plain facts on float64 words: rounding to the nearest word is exact where the number is a word's own. No program in sight. -/
import Derived.Test.YtngdcnljbfkneabGreatDoorFloatKey
namespace FloatKey
open Ieee

theorem cut_exact (neg : Bool) (n drop q : Nat) (h : n = q * 2 ^ drop) (hq : 0 < q) : Toward.even.cut neg n drop = q := by
  have hn : 0 < n := by rw [h]; exact Nat.mul_pos hq (Nat.two_pow_pos _)
  have hd : drop ≤ n.log2 := by
    rw [Nat.le_log2 (by omega), h]
    exact Nat.le_mul_of_pos_left _ hq
  unfold Toward.cut
  have hm : min drop (n.log2 + 2) = drop := by omega
  simp only [hm, Nat.shiftLeft_eq, Nat.one_mul]
  have e1 : n / 2 ^ drop = q := by rw [h]; exact Nat.mul_div_cancel _ (Nat.two_pow_pos _)
  have e2 : n % 2 ^ drop = 0 := by rw [h]; exact Nat.mul_mod_left _ _
  have hp := Nat.two_pow_pos drop
  rw [e1, e2]
  have h3 : (2 ^ drop == 2 * 0) = false := by simp
  simp [h3]

theorem log2_unique {n l : Nat} (h0 : 2 ^ l ≤ n) (h1 : n < 2 ^ (l + 1)) : n.log2 = l := by
  have hn : n ≠ 0 := by have := Nat.two_pow_pos l; omega
  have a := (Nat.le_log2 hn).2 h0
  have b := (Nat.log2_lt hn).2 h1
  omega

theorem log2_mul_pow {m : Nat} (k : Nat) (hm : 0 < m) : (m * 2 ^ k).log2 = m.log2 + k := by
  have h0 := Nat.log2_self_le (n := m) (by omega)
  have h1 := Nat.lt_log2_self (n := m)
  refine log2_unique ?_ ?_
  · rw [Nat.pow_add]; exact Nat.mul_le_mul_right _ h0
  · rw [show m.log2 + k + 1 = (m.log2 + 1) + k from by omega, Nat.pow_add]
    exact Nat.mul_lt_mul_of_pos_right h1 (Nat.two_pow_pos _)

/-- A word's own magnitude, its significand and its place. -/
theorem units_split (r : Nat) (h : 0 < r) : ∃ m e : Nat, units r = m * 2 ^ e ∧ e * 4503599627370496 + m = r ∧ (units r).log2 - 52 = e ∧ 0 < m := by
  by_cases hl : r < 4503599627370496
  · refine ⟨r, 0, by unfold units; rw [if_pos hl]; omega, by omega, ?_, h⟩
    have e : units r = r := by unfold units; rw [if_pos hl]
    have := (Nat.log2_lt (n := r) (k := 52) (by omega)).2 (by rw [two52]; exact hl)
    rw [e]; omega
  · refine ⟨4503599627370496 + r % 4503599627370496, r / 4503599627370496 - 1, by unfold units; rw [if_neg hl], by omega, ?_, by omega⟩
    have hm : r % 4503599627370496 < 4503599627370496 := Nat.mod_lt _ (by omega)
    have e : units r = (4503599627370496 + r % 4503599627370496) * 2 ^ (r / 4503599627370496 - 1) := by unfold units; rw [if_neg hl]
    rw [e, log2_mul_pow _ (by omega), log2_unique (n := 4503599627370496 + r % 4503599627370496) (l := 52) (by rw [two52]; omega) (by rw [Nat.pow_succ, two52]; omega)]
    omega

/-- THE NEAREST WORD TO A NUMBER THAT IS A WORD's OWN IS THAT WORD. -/
theorem nearest_exact (s : Bool) (mag k r : Nat) (h : mag * 2 ^ k = units r) (hr : r ≤ 9218868437227405312) : double.nearest s mag (-1074 + (k : Int)) = double.word s r := by
  unfold Format.nearest
  by_cases h0 : mag = 0
  · subst h0
    have : units r = 0 := by rw [← h]; omega
    rw [units_zero_iff] at this
    rw [if_pos rfl, this]
  · have hr0 : 0 < r := by
      by_cases e : r = 0
      · subst e
        have e0 : units 0 = 0 := rfl
        rw [e0, mul_pow_zero] at h
        exact absurd h h0
      · omega
    obtain ⟨m, e, hu, her, hlog, hm⟩ := units_split r hr0
    rw [if_neg h0, d_frac, d_least, d_binade, d_inf]
    have hl : (units r).log2 = mag.log2 + k := by rw [← h, log2_mul_pow _ (by omega)]
    have hlast : max (-1074 + (k : Int) + (mag.log2 : Int) - ((52 : Nat) : Int)) (-1074) = -1074 + (e : Int) := by omega
    have hkept : Toward.even.cut s (mag <<< ((-1074 + (k : Int)) - (-1074 + (e : Int))).toNat) ((-1074 + (e : Int)) - (-1074 + (k : Int))).toNat = m := by
      have a1 : ((-1074 + (k : Int)) - (-1074 + (e : Int))).toNat = k - e := by omega
      have a2 : ((-1074 + (e : Int)) - (-1074 + (k : Int))).toNat = e - k := by omega
      rw [a1, a2, Nat.shiftLeft_eq]
      refine cut_exact _ _ _ _ ?_ hm
      have hh : mag * 2 ^ k = m * 2 ^ e := by rw [h, hu]
      by_cases c : e ≤ k
      · have : e - k = 0 := by omega
        rw [this]
        have hk : k = (k - e) + e := by omega
        rw [hk, Nat.pow_add, ← Nat.mul_assoc] at hh
        have := Nat.eq_of_mul_eq_mul_right (Nat.two_pow_pos e) hh
        rw [this]; omega
      · have : k - e = 0 := by omega
        rw [this]
        have he : e = (e - k) + k := by omega
        rw [he, Nat.pow_add, ← Nat.mul_assoc] at hh
        have := Nat.eq_of_mul_eq_mul_right (Nat.two_pow_pos k) hh
        rw [← this]; omega
    have hrung : ((-1074 + (e : Int)) - (-1074)).toNat * 4503599627370496 + m = r := by
      have : ((-1074 + (e : Int)) - (-1074)).toNat = e := by omega
      rw [this]; exact her
    simp only [hlast, hkept, hrung]
    rw [Nat.min_eq_left hr]

/-- What rounding a whole number that is not nought gives: a normal word. -/
theorem nearest_int (s : Bool) (mag : Nat) (h0 : 0 < mag) (h : mag < 18446744073709551616) :
    ∃ kept, double.nearest s mag 0 = double.word s ((mag.log2 + 1022) * 4503599627370496 + kept) ∧ 4503599627370496 ≤ kept ∧ kept ≤ 9007199254740992 ∧ mag.log2 ≤ 63 ∧ (mag.log2 ≤ 52 → kept = mag * 2 ^ (52 - mag.log2)) := by
  have hl : mag.log2 ≤ 63 := by
    have := (Nat.log2_lt (n := mag) (k := 64) (by omega)).2 (by simpa using h)
    omega
  have hlo := Nat.log2_self_le (n := mag) (by omega)
  have hhi := Nat.lt_log2_self (n := mag)
  unfold Format.nearest
  rw [if_neg (by omega), d_frac, d_least, d_binade, d_inf]
  have hlast : max ((0 : Int) + (mag.log2 : Int) - ((52 : Nat) : Int)) (-1074) = (mag.log2 : Int) - 52 := by omega
  have a1 : ((0 : Int) - ((mag.log2 : Int) - 52)).toNat = 52 - mag.log2 := by omega
  have a2 : (((mag.log2 : Int) - 52) - 0).toNat = mag.log2 - 52 := by omega
  have a3 : ((mag.log2 : Int) - 52 - (-1074)).toNat = mag.log2 + 1022 := by omega
  simp only [hlast, a1, a2, a3]
  by_cases c : mag.log2 ≤ 52
  · have e0 : mag.log2 - 52 = 0 := by omega
    rw [e0, Nat.shiftLeft_eq, cut_exact s (mag * 2 ^ (52 - mag.log2)) 0 (mag * 2 ^ (52 - mag.log2)) (by omega) (Nat.mul_pos h0 (Nat.two_pow_pos _))]
    have k1 : 4503599627370496 ≤ mag * 2 ^ (52 - mag.log2) := by
      rw [← two52, show 52 = mag.log2 + (52 - mag.log2) from by omega, Nat.pow_add]
      rw [show mag.log2 + (52 - mag.log2) - mag.log2 = 52 - mag.log2 from by omega]
      exact Nat.mul_le_mul_right _ hlo
    have k2 : mag * 2 ^ (52 - mag.log2) < 9007199254740992 := by
      have : (9007199254740992 : Nat) = 2 ^ (mag.log2 + 1) * 2 ^ (52 - mag.log2) := by
        rw [← Nat.pow_add, show mag.log2 + 1 + (52 - mag.log2) = 53 from by omega]
      rw [this]
      exact Nat.mul_lt_mul_of_pos_right hhi (Nat.two_pow_pos _)
    refine ⟨mag * 2 ^ (52 - mag.log2), ?_, k1, by omega, hl, fun _ => rfl⟩
    rw [Nat.min_eq_left (by omega)]
  · have e0 : 52 - mag.log2 = 0 := by omega
    rw [e0, Nat.shiftLeft_eq, Nat.pow_zero, Nat.mul_one]
    have hp := Nat.two_pow_pos (mag.log2 - 52)
    have q1 : 4503599627370496 ≤ mag / 2 ^ (mag.log2 - 52) := by
      rw [Nat.le_div_iff_mul_le hp, ← two52, ← Nat.pow_add, show 52 + (mag.log2 - 52) = mag.log2 from by omega]
      exact hlo
    have q2 : mag / 2 ^ (mag.log2 - 52) < 9007199254740992 := by
      rw [Nat.div_lt_iff_lt_mul hp]
      have : (9007199254740992 : Nat) * 2 ^ (mag.log2 - 52) = 2 ^ (mag.log2 + 1) := by
        rw [show (9007199254740992 : Nat) = 2 ^ 53 from by decide, ← Nat.pow_add, show 53 + (mag.log2 - 52) = mag.log2 + 1 from by omega]
      rw [this]; exact hhi
    have hc : ∃ b : Bool, Toward.even.cut s mag (mag.log2 - 52) = mag / 2 ^ (mag.log2 - 52) + b.toNat := by
      unfold Toward.cut
      have hm : min (mag.log2 - 52) (mag.log2 + 2) = mag.log2 - 52 := by omega
      simp only [hm, Nat.shiftLeft_eq, Nat.one_mul]
      exact ⟨_, rfl⟩
    obtain ⟨b, hb⟩ := hc
    have hb1 : b.toNat ≤ 1 := by cases b <;> simp
    refine ⟨mag / 2 ^ (mag.log2 - 52) + b.toNat, ?_, by omega, by omega, hl, fun hh => absurd hh c⟩
    rw [hb, Nat.min_eq_left (by omega)]

theorem rung_word (s : Bool) (r : Nat) (h : r < 9223372036854775808) : rung (double.word s r) = r ∧ sgn (double.word s r) = s := by
  unfold Format.word rung sgn
  rw [d_sign]
  cases s
  · simp; omega
  · simp; omega

end FloatKey
