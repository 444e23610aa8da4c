/- Plain law of float parsing: the packed word is the nearest word. No program in sight. -/
import Derived.Test.YtngdcnljbfkneabGreatDoorFloatNear
namespace FloatKey
open Ieee

theorem or_odd (a b : Nat) (ha : a % 2 = 1) (hb : b < 2) : a ||| b = a := by
  have e1 : (a ||| b) / 2 = a / 2 ||| b / 2 := Nat.or_div_two_pow (n := 1)
  have e2 : (a ||| b) % 2 = a % 2 ||| b % 2 := Nat.or_mod_two_pow (n := 1)
  have e3 : b / 2 = 0 := by omega
  have e4 : b % 2 = 0 ∨ b % 2 = 1 := by omega
  rw [e3, Nat.or_zero] at e1
  rw [ha] at e2
  have e5 : 1 ||| b % 2 = 1 := by rcases e4 with h | h <;> rw [h] <;> decide
  rw [e5] at e2
  omega

/-- Rounding a whole number of 53 bits or more: q is its head of 53 bits, R what is left, of 2048. -/
theorem nearest_big (s : Bool) (d : Nat) (h1 : 4503599627370496 ≤ d) (h2 : d < 18446744073709551616) :
    ∃ q R l, d.log2 = l ∧ 52 ≤ l ∧ l ≤ 63 ∧ q * 2048 + R = d * 2 ^ (63 - l) ∧ R < 2048 ∧ 4503599627370496 ≤ q ∧ q < 9007199254740992 ∧
      double.nearest s d 0 = double.word s ((l + 1022) * 4503599627370496 + (q + if 1024 < R ∨ (R = 1024 ∧ q % 2 = 1) then 1 else 0)) := by
  obtain ⟨l, hl⟩ : ∃ l, d.log2 = l := ⟨_, rfl⟩
  have hlo := Nat.log2_self_le (n := d) (by omega)
  have hhi := Nat.lt_log2_self (n := d)
  have l1 : 52 ≤ l := by rw [← hl, Nat.le_log2 (by omega), two52]; exact h1
  have l2 : l ≤ 63 := by
    have := (Nat.log2_lt (n := d) (k := 64) (by omega)).2 (by simpa using h2)
    omega
  rw [hl] at hlo hhi
  have hgk : 2 ^ (l - 52) * 2 ^ (63 - l) = 2048 := by rw [← Nat.pow_add, show l - 52 + (63 - l) = 11 from by omega]
  obtain ⟨g, hg⟩ : ∃ g, g = 2 ^ (l - 52) := ⟨_, rfl⟩
  obtain ⟨k, hk⟩ : ∃ k, k = 2 ^ (63 - l) := ⟨_, rfl⟩
  rw [← hg, ← hk] at hgk
  have hg0 : 0 < g := by rw [hg]; exact Nat.two_pow_pos _
  have hk0 : 0 < k := by rw [hk]; exact Nat.two_pow_pos _
  have hdm := Nat.div_add_mod d g
  have hrl := Nat.mod_lt d hg0
  have q1 : 4503599627370496 ≤ d / g := by
    rw [Nat.le_div_iff_mul_le hg0]
    have : 4503599627370496 * g = 2 ^ l := by rw [hg, ← two52, ← Nat.pow_add, show 52 + (l - 52) = l from by omega]
    omega
  have q2 : d / g < 9007199254740992 := by
    rw [Nat.div_lt_iff_lt_mul hg0]
    have : 9007199254740992 * g = 2 ^ (l + 1) := by rw [hg, show (9007199254740992 : Nat) = 2 ^ 53 from by decide, ← Nat.pow_add, show 53 + (l - 52) = l + 1 from by omega]
    omega
  have hcut : Toward.even.cut s d (l - 52) = d / g + (if 1024 < d % g * k ∨ (d % g * k = 1024 ∧ d / g % 2 = 1) then 1 else 0) := by
    unfold Toward.cut
    have hm : min (l - 52) (d.log2 + 2) = l - 52 := by rw [hl]; omega
    simp only [hm, Nat.shiftLeft_eq, Nat.one_mul, ← hg]
    have t1 : g < 2 * (d % g) ↔ 1024 < d % g * k := by
      have e : g * k < 2 * (d % g) * k ↔ g < 2 * (d % g) := Nat.mul_lt_mul_right hk0
      rw [hgk, Nat.mul_assoc] at e
      omega
    have t3 : 2 * (d % g) < g ↔ d % g * k < 1024 := by
      have e : 2 * (d % g) * k < g * k ↔ 2 * (d % g) < g := Nat.mul_lt_mul_right hk0
      rw [hgk, Nat.mul_assoc] at e
      omega
    have t2 : g = 2 * (d % g) ↔ d % g * k = 1024 := by omega
    have tb : (decide (g < 2 * (d % g)) || (g == 2 * (d % g) && d / g % 2 == 1)) = decide (1024 < d % g * k ∨ (d % g * k = 1024 ∧ d / g % 2 = 1)) := by
      rw [Bool.eq_iff_iff]
      simp only [Bool.or_eq_true, Bool.and_eq_true, decide_eq_true_eq, beq_iff_eq, t1]
      rw [← t2]
    rw [tb]
    by_cases c : 1024 < d % g * k ∨ (d % g * k = 1024 ∧ d / g % 2 = 1)
    · rw [if_pos c, decide_eq_true c]; rfl
    · rw [if_neg c, decide_eq_false c]; rfl
  refine ⟨d / g, d % g * k, l, hl, l1, l2, ?_, ?_, q1, q2, ?_⟩
  · rw [← hk]
    have : d / g * 2048 + d % g * k = (g * (d / g) + d % g) * k := by rw [Nat.add_mul, ← hgk, Nat.mul_comm g (d / g), Nat.mul_assoc]
    rw [this, hdm]
  · rw [← hgk]; exact Nat.mul_lt_mul_of_pos_right hrl hk0
  · unfold Format.nearest
    rw [if_neg (by omega), d_frac, d_least, d_binade, d_inf, hl]
    have hlast : max ((0 : Int) + (l : Int) - ((52 : Nat) : Int)) (-1074) = (l : Int) - 52 := by omega
    have a1 : ((0 : Int) - ((l : Int) - 52)).toNat = 0 := by omega
    have a2 : (((l : Int) - 52) - 0).toNat = l - 52 := by omega
    have a3 : ((l : Int) - 52 - (-1074)).toNat = l + 1022 := by omega
    simp only [hlast, a1, a2, a3]
    rw [Nat.shiftLeft_zero, hcut]
    have hif : (if 1024 < d % g * k ∨ (d % g * k = 1024 ∧ d / g % 2 = 1) then 1 else 0) ≤ 1 := by split <;> omega
    rw [Nat.min_eq_left (by omega)]

/-- What the unrounded value of such a number packs into. -/
theorem pack_round (q R l : Nat) (hq1 : 4503599627370496 ≤ q) (hq2 : q < 9007199254740992) (hR : R < 2048) (hR2 : R % 2 = 0) (hl : l ≤ 63) :
    ∃ U V E f, ((R % 512 = 0 ∧ U = 4 * q + R / 512) ∨ (R % 512 ≠ 0 ∧ U = 4 * q + R / 1024 * 2 + 1)) ∧ U < 72057594037927936 ∧
      ((U < 36028797018963966 ∧ V = U ∧ E = l + 1 + 1022) ∨ (36028797018963966 ≤ U ∧ V = U / 2 ||| U % 2 ∧ E = l + 1 + 1023)) ∧ (V + 1 + V / 4 % 2) / 4 = 4503599627370496 + f ∧ f < 4503599627370496 ∧ E < 2047 ∧
      f + E * 4503599627370496 = (l + 1022) * 4503599627370496 + (q + if 1024 < R ∨ (R = 1024 ∧ q % 2 = 1) then 1 else 0) := by
  have key : ∀ U, ((R % 512 = 0 ∧ U = 4 * q + R / 512) ∨ (R % 512 ≠ 0 ∧ U = 4 * q + R / 1024 * 2 + 1)) → ∃ V E f, U < 72057594037927936 ∧
      ((U < 36028797018963966 ∧ V = U ∧ E = l + 1 + 1022) ∨ (36028797018963966 ≤ U ∧ V = U / 2 ||| U % 2 ∧ E = l + 1 + 1023)) ∧ (V + 1 + V / 4 % 2) / 4 = 4503599627370496 + f ∧ f < 4503599627370496 ∧ E < 2047 ∧
      f + E * 4503599627370496 = (l + 1022) * 4503599627370496 + (q + if 1024 < R ∨ (R = 1024 ∧ q % 2 = 1) then 1 else 0) := by
    intro U hU
    by_cases big : U < 36028797018963966
    · refine ⟨U, l + 1 + 1022, (U + 1 + U / 4 % 2) / 4 - 4503599627370496, by omega, Or.inl ⟨big, rfl, rfl⟩, by omega, by omega, by omega, ?_⟩
      split <;> omega
    · have hq : q = 9007199254740991 := by omega
      subst hq
      have ho : U / 2 ||| U % 2 = U / 2 := or_odd _ _ (by omega) (by omega)
      refine ⟨U / 2, l + 1 + 1023, 0, by omega, Or.inr ⟨by omega, ho.symm, rfl⟩, by omega, by omega, by omega, ?_⟩
      split <;> omega
  by_cases c : R % 512 = 0
  · obtain ⟨V, E, f, h⟩ := key _ (Or.inl ⟨c, rfl⟩)
    exact ⟨_, V, E, f, Or.inl ⟨c, rfl⟩, h⟩
  · obtain ⟨V, E, f, h⟩ := key _ (Or.inr ⟨c, rfl⟩)
    exact ⟨_, V, E, f, Or.inr ⟨c, rfl⟩, h⟩

theorem units_mk (f E : Nat) (hf : f < 4503599627370496) (hE : 1 ≤ E) : units (f + E * 4503599627370496) = (4503599627370496 + f) * 2 ^ (E - 1) := by
  unfold units
  rw [if_neg (by omega), show (f + E * 4503599627370496) / 4503599627370496 = E from by omega, show (f + E * 4503599627370496) % 4503599627370496 = f from by omega]

/-- The unrounded value 4 * m, exact, of n scaled by a power of two. -/
theorem pack_exact (n m B c c0 ex : Nat) (hm : m = n * 2 ^ (c - c0)) (hc : c0 ≤ c) (hB : B + c = 64) (hB1 : 53 ≤ B) (hex : c0 + ex = 11) (hm1 : 4503599627370496 ≤ m) (hm2 : m < 18014398509481984) (hn : n ≤ 9007199254740992) :
    ∃ V E f, ((4 * m < 36028797018963966 ∧ V = 4 * m ∧ E + ex = B + 1022) ∨ (36028797018963966 ≤ 4 * m ∧ V = 4 * m / 2 ||| 4 * m % 2 ∧ E + ex = B + 1023)) ∧ (V + 1 + V / 4 % 2) / 4 = 4503599627370496 + f ∧ f < 4503599627370496 ∧ E < 2047 ∧
      units (f + E * 4503599627370496) = n * 2 ^ 1074 := by
  by_cases big : m < 9007199254740992
  · refine ⟨4 * m, B + 1022 - ex, m - 4503599627370496, Or.inl ⟨by omega, rfl, by omega⟩, by omega, by omega, by omega, ?_⟩
    rw [units_mk _ _ (by omega) (by omega), show 4503599627370496 + (m - 4503599627370496) = m from by omega, hm, Nat.mul_assoc, ← Nat.pow_add, show c - c0 + (B + 1022 - ex - 1) = 1074 from by omega]
  · have hev : m % 2 = 0 := by
      by_cases e : c = c0
      · subst e
        rw [Nat.sub_self, Nat.pow_zero, Nat.mul_one] at hm
        omega
      · have : m = n * 2 ^ (c - c0 - 1) * 2 := by rw [hm, Nat.mul_assoc, ← Nat.pow_succ, show (c - c0 - 1).succ = c - c0 from by omega]
        omega
    refine ⟨2 * m, B + 1023 - ex, m / 2 - 4503599627370496, Or.inr ⟨by omega, ?_, by omega⟩, by omega, by omega, by omega, ?_⟩
    · rw [show 4 * m / 2 = 2 * m from by omega, show 4 * m % 2 = 0 from by omega, Nat.or_zero]
    · rw [units_mk _ _ (by omega) (by omega), show 4503599627370496 + (m / 2 - 4503599627370496) = m / 2 from by omega]
      have e1 : m / 2 * 2 ^ (B + 1023 - ex - 1) = m * 2 ^ (B + 1023 - ex - 2) := by
        rw [show B + 1023 - ex - 1 = (B + 1023 - ex - 2) + 1 from by omega, Nat.pow_succ, Nat.mul_comm (2 ^ _) 2, ← Nat.mul_assoc]
        congr 1
        omega
      rw [e1, hm, Nat.mul_assoc, ← Nat.pow_add, show c - c0 + (B + 1023 - ex - 2) = 1074 from by omega]

/-- A whole number up to 2^53 is a word's own magnitude. -/
theorem nearest_whole (s : Bool) (n : Nat) (hn : n ≤ 9007199254740992) : ∃ r, double.nearest s n 0 = double.word s r ∧ units r = n * 2 ^ 1074 ∧ r < 9218868437227405312 := by
  by_cases h0 : n = 0
  · subst h0
    exact ⟨0, by unfold Format.nearest; rw [if_pos rfl], by decide +kernel, by decide⟩
  · obtain ⟨kept, hk, k1, k2, k3, k4⟩ := nearest_int s n (by omega) (by omega)
    have hl : n.log2 ≤ 53 := by
      have := (Nat.log2_lt (n := n) (k := 54) h0).2 (by omega)
      omega
    by_cases c : n.log2 ≤ 52
    · have e := k4 c
      refine ⟨_, hk, ?_, by omega⟩
      have hlt : kept < 9007199254740992 := by
        rw [e]
        have h := Nat.lt_log2_self (n := n)
        have : (9007199254740992 : Nat) = 2 ^ (n.log2 + 1) * 2 ^ (52 - n.log2) := by rw [← Nat.pow_add, show n.log2 + 1 + (52 - n.log2) = 53 from by omega]
        rw [this]
        exact Nat.mul_lt_mul_of_pos_right h (Nat.two_pow_pos _)
      have e2 : (n.log2 + 1022) * 4503599627370496 + kept = (kept - 4503599627370496) + (n.log2 + 1023) * 4503599627370496 := by omega
      have k5 : 4503599627370496 + (kept - 4503599627370496) = kept := Nat.add_sub_cancel' k1
      have key : kept * 2 ^ (n.log2 + 1023 - 1) = n * 2 ^ (52 - n.log2 + (n.log2 + 1023 - 1)) := by rw [e, Nat.mul_assoc, ← Nat.pow_add]
      have k74 : 52 - n.log2 + (n.log2 + 1023 - 1) = 1074 := by omega
      rw [k74] at key
      rw [e2, units_mk _ _ (by omega) (by omega), k5]
      exact key
    · have hn2 : n = 9007199254740992 := by
        have h := Nat.log2_self_le (n := n) h0
        have : n.log2 = 53 := by omega
        rw [this] at h
        have : (2 : Nat) ^ 53 = 9007199254740992 := by decide
        omega
      subst hn2
      exact ⟨4845873199050653696, by cases s <;> decide +kernel, by decide +kernel, by decide⟩

theorem units_inj {a b : Nat} (h : units a = units b) : a = b := by
  have h1 := units_lt_iff a b
  have h2 := units_lt_iff b a
  omega

/-- DIVIDING A WORD BY A WORD WHERE THE QUOTIENT IS A WHOLE NUMBER OF 53 BITS: exact. -/
theorem div_exact (s : Bool) (rx ry r n : Nat) (hx : rx < 9218868437227405312) (hx1 : 4503599627370496 ≤ rx) (hy : ry < 9218868437227405312) (hy1 : 4503599627370496 ≤ ry) (hr : r < 9218868437227405312)
    (he : units rx = n * units ry) (_hn0 : 0 < n) (hn : n < 9007199254740992) (hu : units r = n * 2 ^ 1074) (hy2 : ry / 4503599627370496 ≤ 1077) (hx2 : 1023 ≤ rx / 4503599627370496) : double.div (double.word s rx) (double.word false ry) = some (double.word s r) := by
  have rx1 := rung_word s rx (by omega)
  have ry1 := rung_word false ry (by omega)
  have ex : double.read (double.word s rx) = .number s (4503599627370496 + rx % 4503599627370496) (-1074 + ((rx / 4503599627370496 - 1 : Nat) : Int)) := by
    unfold Format.read
    rw [d_binade, d_sign, d_inf, d_least]
    have e1 : double.word s rx % 9223372036854775808 = rx := rx1.1
    have e2 : (double.word s rx / 9223372036854775808 % 2 == 1) = s := rx1.2
    simp only [e1, e2]
    rw [if_neg (by omega), if_pos hx]
  have ey : double.read (double.word false ry) = .number false (4503599627370496 + ry % 4503599627370496) (-1074 + ((ry / 4503599627370496 - 1 : Nat) : Int)) := by
    unfold Format.read
    rw [d_binade, d_sign, d_inf, d_least]
    have e1 : double.word false ry % 9223372036854775808 = ry := ry1.1
    have e2 : (double.word false ry / 9223372036854775808 % 2 == 1) = false := ry1.2
    simp only [e1, e2]
    rw [if_neg (by omega), if_pos hy]
  unfold Format.div
  rw [ex, ey]
  obtain ⟨mx, hmx⟩ : ∃ mx, mx = 4503599627370496 + rx % 4503599627370496 := ⟨_, rfl⟩
  obtain ⟨my, hmy⟩ : ∃ my, my = 4503599627370496 + ry % 4503599627370496 := ⟨_, rfl⟩
  obtain ⟨kx, hkx⟩ : ∃ kx, kx = rx / 4503599627370496 - 1 := ⟨_, rfl⟩
  obtain ⟨ky, hky⟩ : ∃ ky, ky = ry / 4503599627370496 - 1 := ⟨_, rfl⟩
  have ux : units rx = mx * 2 ^ kx := by unfold units; rw [if_neg (by omega), hmx, hkx]
  have uy : units ry = my * 2 ^ ky := by unfold units; rw [if_neg (by omega), hmy, hky]
  rw [← hmx, ← hmy, ← hkx, ← hky]
  have lx : mx.log2 = 52 := log2_unique (by rw [two52]; omega) (by rw [Nat.pow_succ, two52]; omega)
  have ly : my.log2 = 52 := log2_unique (by rw [two52]; omega) (by rw [Nat.pow_succ, two52]; omega)
  have hq : mx * 2 ^ kx = n * my * 2 ^ ky := by rw [← ux, he, uy, Nat.mul_assoc]
  have hk : kx ≤ ky + 54 := by
    have h1 : 2 ^ kx * 4503599627370496 ≤ mx * 2 ^ kx := by rw [Nat.mul_comm]; exact Nat.mul_le_mul_right _ (by omega)
    have h2 : n * my * 2 ^ ky < 2 ^ 106 * 2 ^ ky := by
      refine Nat.mul_lt_mul_of_pos_right ?_ (Nat.two_pow_pos _)
      have : n * my < 9007199254740992 * 9007199254740992 := Nat.mul_lt_mul'' hn (by omega)
      have e : (9007199254740992 : Nat) * 9007199254740992 = 2 ^ 106 := by decide
      omega
    rw [← hq] at h2
    have h3 : 2 ^ (kx + 52) < 2 ^ (106 + ky) := by
      rw [Nat.pow_add, Nat.pow_add, two52]
      omega
    have := (Nat.pow_lt_pow_iff_right (by omega)).1 h3
    omega
  have hN : mx * 2 ^ 54 = n * 2 ^ (ky + 54 - kx) * my := by
    have h1 : mx * 2 ^ 54 * 2 ^ kx = n * 2 ^ (ky + 54 - kx) * my * 2 ^ kx := by
      have e1 : mx * 2 ^ 54 * 2 ^ kx = mx * 2 ^ kx * 2 ^ 54 := Nat.mul_right_comm _ _ _
      have e2 : n * 2 ^ (ky + 54 - kx) * my * 2 ^ kx = n * my * (2 ^ (ky + 54 - kx) * 2 ^ kx) := by
        rw [Nat.mul_right_comm n, Nat.mul_assoc (n * my)]
      rw [e1, hq, e2, ← Nat.pow_add, show ky + 54 - kx + kx = ky + 54 from by omega, Nat.pow_add, Nat.mul_assoc]
    exact Nat.eq_of_mul_eq_mul_right (Nat.two_pow_pos kx) h1
  have hmy0 : 0 < my := by omega
  have hd : mx <<< 54 / my = n * 2 ^ (ky + 54 - kx) := by
    rw [Nat.shiftLeft_eq, hN]; exact Nat.mul_div_cancel _ hmy0
  have hm : mx <<< 54 % my = 0 := by
    rw [Nat.shiftLeft_eq, hN]; exact Nat.mul_mod_left _ _
  have hquot : (Datum.number s mx (-1074 + (kx : Int))).quotient (double.fractionBits + 2) (Datum.number false my (-1074 + (ky : Int))) = some (.number s (2 * (n * 2 ^ (ky + 54 - kx))) ((-1074 + (kx : Int)) - (-1074 + (ky : Int)) - 54 - 1)) := by
    show (if my = 0 then (if mx = 0 then none else some (Datum.infinity (s ^^ false))) else some (Datum.number (s ^^ false) (2 * (mx <<< (double.fractionBits + 2 + my.log2 - mx.log2) / my) + (mx <<< (double.fractionBits + 2 + my.log2 - mx.log2) % my != 0).toNat) (-1074 + (kx : Int) - (-1074 + (ky : Int)) - ((double.fractionBits + 2 + my.log2 - mx.log2 : Nat) : Int) - 1))) = _
    rw [if_neg (by omega), d_frac, lx, ly]
    have e54 : 52 + 2 + 52 - 52 = 54 := rfl
    simp only [e54, hd, hm]
    cases s <;> rfl
  rw [hquot]
  show some (double.nearest s _ _) = _
  have hpl : (-1074 + (kx : Int)) - (-1074 + (ky : Int)) - 54 - 1 = -1074 + ((kx + 1074 - ky - 55 : Nat) : Int) := by omega
  rw [hpl]
  refine congrArg some (nearest_exact s _ _ r ?_ (by omega))
  rw [hu]
  have e3 : 2 * (n * 2 ^ (ky + 54 - kx)) = n * 2 ^ (ky + 55 - kx) := by
    rw [show ky + 55 - kx = (ky + 54 - kx) + 1 from by omega, Nat.pow_succ, Nat.mul_comm 2, Nat.mul_assoc]
  rw [e3, Nat.mul_assoc, ← Nat.pow_add, show ky + 55 - kx + (kx + 1074 - ky - 55) = 1074 from by omega]

end FloatKey
