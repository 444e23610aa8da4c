/- Plain facts on float64 words by the number that they stand for: N / 2^k; sums, differences, products and quotients that are such numbers again are exact; the whole part. No program in sight. -/
import Derived.Test.YtngdcnljbfkneabGreatDoorFloatNear
import Derived.Laws.FloatArith
namespace FloatKey
open Ieee Go

theorem sg_mul (s : Bool) (a u : Nat) : sg s (a * u) = sg s a * (u : Int) := by
  unfold sg; cases s <;> simp [Int.natCast_mul, Int.neg_mul]
theorem sg_abs (s : Bool) (a : Nat) : (sg s a).natAbs = a := by
  unfold sg; cases s <;> simp
theorem sg_sign (T : Int) (b : Bool) : sg (if T = 0 then b else decide (T < 0)) T.natAbs = T := by
  by_cases h : T = 0
  · subst h; cases b <;> rfl
  · rw [if_neg h]
    unfold sg
    by_cases c : T < 0
    · simp [c]; omega
    · simp [c]; omega
theorem sg_dec (T : Int) : sg (decide (T < 0)) T.natAbs = T := by
  unfold sg
  by_cases c : T < 0
  · simp [c]; omega
  · simp [c]; omega
theorem sg_not (s : Bool) (a : Nat) : sg (!s) a = -sg s a := by
  unfold sg; cases s <;> simp
theorem sg_xor (s t : Bool) (a b : Nat) : sg (s ^^ t) (a * b) = sg s a * sg t b := by
  unfold sg; cases s <;> cases t <;> simp [Int.natCast_mul, Int.neg_mul, Int.mul_neg]

theorem units_mkV (m e : Nat) (h1 : 4503599627370496 ≤ m) (h2 : m < 9007199254740992) : units (e * 4503599627370496 + m) = m * 2 ^ e := by
  unfold units
  rw [if_neg (by omega)]
  have a : (e * 4503599627370496 + m) % 4503599627370496 = m - 4503599627370496 := by omega
  have b : (e * 4503599627370496 + m) / 4503599627370496 - 1 = e := by omega
  rw [a, b, show 4503599627370496 + (m - 4503599627370496) = m from by omega]
theorem exists_rung (N j : Nat) (hN : N ≤ 9007199254740992) (h1 : 60 ≤ j) (h2 : j ≤ 1074) : ∃ r, r < 9218868437227405312 ∧ units r = N * 2 ^ j := by
  by_cases h0 : N = 0
  · exact ⟨0, by decide, by subst h0; rw [Nat.zero_mul]; rfl⟩
  · by_cases hm : N = 9007199254740992
    · refine ⟨(j + 1) * 4503599627370496 + 4503599627370496, by omega, ?_⟩
      rw [units_mkV _ _ (Nat.le_refl _) (by decide), hm, Nat.pow_succ]
      omega
    · have hlo := Nat.log2_self_le (n := N) (by omega)
      have hhi := Nat.lt_log2_self (n := N)
      have e53 : (2 : Nat) ^ 53 = 9007199254740992 := by decide
      have hl : N.log2 ≤ 52 := by have := (Nat.log2_lt (n := N) (k := 53) (by omega)).2 (by omega); omega
      have k1 : 4503599627370496 ≤ N * 2 ^ (52 - N.log2) := by
        rw [← two52, show 52 = N.log2 + (52 - N.log2) from by omega, Nat.pow_add]
        rw [show N.log2 + (52 - N.log2) - N.log2 = 52 - N.log2 from by omega]
        exact Nat.mul_le_mul_right _ hlo
      have k2 : N * 2 ^ (52 - N.log2) < 9007199254740992 := by
        have : (9007199254740992 : Nat) = 2 ^ (N.log2 + 1) * 2 ^ (52 - N.log2) := by
          rw [← Nat.pow_add, show N.log2 + 1 + (52 - N.log2) = 53 from by omega, e53]
        rw [this]
        exact Nat.mul_lt_mul_of_pos_right hhi (Nat.two_pow_pos _)
      obtain ⟨e, he⟩ : ∃ e, e = j - (52 - N.log2) := ⟨_, rfl⟩
      refine ⟨e * 4503599627370496 + N * 2 ^ (52 - N.log2), by omega, ?_⟩
      rw [units_mkV _ _ k1 k2, Nat.mul_assoc, ← Nat.pow_add, show 52 - N.log2 + e = j from by omega]

theorem pow_pos_int (k : Nat) : (0 : Int) < ((2 ^ k : Nat) : Int) := Int.ofNat_lt.2 (Nat.two_pow_pos k)
theorem pow_ne_int (k : Nat) : ((2 ^ k : Nat) : Int) ≠ 0 := Int.ne_of_gt (pow_pos_int k)
theorem pow_up (a b c : Nat) (h : c = a + b) : (2 : Nat) ^ a * 2 ^ b = 2 ^ c := by rw [h, Nat.pow_add]
theorem cancel_pow (k : Nat) {x y : Int} (h : x * ((2 ^ k : Nat) : Int) = y * ((2 ^ k : Nat) : Int)) : x = y := Int.eq_of_mul_eq_mul_right (pow_ne_int k) h
theorem ediv_pow (k : Nat) (x : Int) : x * ((2 ^ k : Nat) : Int) / ((2 ^ k : Nat) : Int) = x := Int.mul_ediv_cancel _ (pow_ne_int k)
/-- The word b is finite and stands for N / 2^k. -/
def Is (b : Nat) (N : Int) (k : Nat) : Prop := rung b < 9218868437227405312 ∧ k ≤ 1000 ∧ sg (sgn b) (units (rung b)) = N * ((2 ^ (1074 - k) : Nat) : Int)

theorem is_nearest (s : Bool) (mag p : Nat) (N : Int) (k : Nat) (hk : k ≤ 1000) (hN : N.natAbs ≤ 9007199254740992) (h : sg s (mag * 2 ^ p) = N * ((2 ^ (1074 - k) : Nat) : Int)) :
    Is (double.nearest s mag (-1074 + (p : Int))) N k := by
  have ha : mag * 2 ^ p = N.natAbs * 2 ^ (1074 - k) := by
    have := congrArg Int.natAbs h
    rw [sg_abs, Int.natAbs_mul, Int.natAbs_natCast] at this
    exact this
  obtain ⟨r, hr, hu⟩ := exists_rung N.natAbs (1074 - k) hN (by omega) (by omega)
  rw [nearest_exact s mag p r (ha.trans hu.symm) (by omega)]
  have hw := rung_word s r (by omega)
  refine ⟨by rw [hw.1]; exact hr, hk, ?_⟩
  rw [hw.1, hw.2, hu, ← ha, h]
theorem nearest_zero (s : Bool) (place : Int) (k : Nat) (hk : k ≤ 1000) : Is (double.nearest s 0 place) 0 k := by
  unfold Format.nearest
  rw [if_pos rfl]
  have hw := rung_word s 0 (by decide)
  refine ⟨by rw [hw.1]; decide, hk, ?_⟩
  rw [hw.1, Int.zero_mul]
  have e : units 0 = 0 := rfl
  rw [e]
  unfold sg
  cases sgn (double.word s 0) <;> rfl
theorem is_ofInt (n : Int) (h : n.natAbs ≤ 9007199254740992) : Is (floatOfInt .f64 n) n 0 := by
  have e : floatOfInt .f64 n = double.nearest (decide (n < 0)) n.natAbs 0 := rfl
  have := is_nearest (decide (n < 0)) n.natAbs 1074 n 0 (by omega) h (by rw [sg_mul, sg_dec, Nat.sub_zero])
  rw [show (-1074 + ((1074 : Nat) : Int)) = 0 from by decide] at this
  rw [e]; exact this
/-- The same number over a greater power. -/
theorem Is.up {b : Nat} {N : Int} {k : Nat} (h : Is b N k) (j : Nat) (hj : k + j ≤ 1000) : Is b (N * ((2 ^ j : Nat) : Int)) (k + j) := by
  obtain ⟨f, hk, v⟩ := h
  refine ⟨f, hj, ?_⟩
  rw [v, Int.mul_assoc]
  congr 1
  rw [← Int.natCast_mul, ← Nat.pow_add, show j + (1074 - (k + j)) = 1074 - k from by omega]

theorem read_fin2 (b : Nat) (h : rung b < 9218868437227405312) : ∃ m k : Nat, double.read b = .number (sgn b) m (-1074 + (k : Int)) ∧ m * 2 ^ k = units (rung b) ∧ m < 9007199254740992 := by
  unfold Format.read
  rw [d_binade, d_sign, d_inf, d_least]
  by_cases hl : rung b < 4503599627370496
  · refine ⟨rung b, 0, ?_, ?_, by omega⟩
    · have hl' : b % 9223372036854775808 < 4503599627370496 := hl
      simp only [if_pos hl']
      rfl
    · unfold units; rw [if_pos hl]; omega
  · refine ⟨4503599627370496 + rung b % 4503599627370496, rung b / 4503599627370496 - 1, ?_, ?_, by omega⟩
    · have hl' : ¬ b % 9223372036854775808 < 4503599627370496 := hl
      have h' : b % 9223372036854775808 < 9218868437227405312 := h
      simp only [if_neg hl', if_pos h']
      rfl
    · unfold units; rw [if_neg hl]

theorem sum_core (s t : Bool) (m n i j : Nat) (N M : Int) (k : Nat) (hk : k ≤ 1000) (h : (N + M).natAbs ≤ 9007199254740992)
    (vx : sg s (m * 2 ^ i) = N * ((2 ^ (1074 - k) : Nat) : Int)) (vy : sg t (n * 2 ^ j) = M * ((2 ^ (1074 - k) : Nat) : Int)) :
    ∃ r, ((Datum.number s m (-1074 + (i : Int))).sum (Datum.number t n (-1074 + (j : Int)))).map double.write = some r ∧ Is r (N + M) k := by
  obtain ⟨p, hi, hj, hp⟩ : ∃ p : Nat, p ≤ i ∧ p ≤ j ∧ min (-1074 + (i : Int)) (-1074 + (j : Int)) = -1074 + (p : Int) := ⟨min i j, Nat.min_le_left _ _, Nat.min_le_right _ _, by omega⟩
  have e1 : (-1074 + (i : Int) - (-1074 + (p : Int))).toNat = i - p := by omega
  have e2 : (-1074 + (j : Int) - (-1074 + (p : Int))).toNat = j - p := by omega
  obtain ⟨T, hT⟩ : ∃ T, T = signed s m (i - p) + signed t n (j - p) := ⟨_, rfl⟩
  have hT2 : T * ((2 ^ p : Nat) : Int) = (N + M) * ((2 ^ (1074 - k) : Nat) : Int) := by
    rw [hT, signed_eq, signed_eq, Int.add_mul, Int.add_mul, ← sg_mul, ← sg_mul, Nat.mul_assoc, Nat.mul_assoc, ← Nat.pow_add, ← Nat.pow_add,
      show i - p + p = i from by omega, show j - p + p = j from by omega, vx, vy]
  refine ⟨double.nearest (if T = 0 then s && t else decide (T < 0)) T.natAbs (-1074 + (p : Int)), ?_, is_nearest _ _ p (N + M) k hk h (by rw [sg_mul, sg_sign, hT2])⟩
  simp only [Datum.sum, hp, e1, e2, ← hT, Option.map_some]
  rfl
theorem is_add {x y : Nat} {N M : Int} {k : Nat} (hx : Is x N k) (hy : Is y M k) (h : (N + M).natAbs ≤ 9007199254740992) : ∃ r, floatBits .add .f64 x y = some r ∧ Is r (N + M) k := by
  obtain ⟨fx, hk, vx⟩ := hx
  obtain ⟨fy, _, vy⟩ := hy
  obtain ⟨m, i, rx, ux⟩ := read_fin x fx
  obtain ⟨n, j, ry, uy⟩ := read_fin y fy
  rw [← ux] at vx
  rw [← uy] at vy
  obtain ⟨r, h1, h2⟩ := sum_core (sgn x) (sgn y) m n i j N M k hk h vx vy
  refine ⟨r, ?_, h2⟩
  show ((double.read x).sum (double.read y)).map double.write = _
  rw [rx, ry]; exact h1
theorem is_sub {x y : Nat} {N M : Int} {k : Nat} (hx : Is x N k) (hy : Is y M k) (h : (N - M).natAbs ≤ 9007199254740992) : ∃ r, floatBits .sub .f64 x y = some r ∧ Is r (N - M) k := by
  obtain ⟨fx, hk, vx⟩ := hx
  obtain ⟨fy, _, vy⟩ := hy
  obtain ⟨m, i, rx, ux⟩ := read_fin x fx
  obtain ⟨n, j, ry, uy⟩ := read_fin y fy
  rw [← ux] at vx
  rw [← uy] at vy
  obtain ⟨r, h1, h2⟩ := sum_core (sgn x) (!sgn y) m n i j N (-M) k hk (by rw [← Int.sub_eq_add_neg]; exact h) vx (by rw [sg_not, vy, Int.neg_mul])
  rw [← Int.sub_eq_add_neg] at h2
  refine ⟨r, ?_, h2⟩
  show ((double.read x).sum (double.read y).opposite).map double.write = _
  rw [rx, ry]; exact h1

/-- A number that is not nought and no fraction of more than k places has no small place. -/
theorem place_low {s : Bool} {m i : Nat} {N : Int} {k : Nat} (hm : m < 9007199254740992) (hk : k ≤ 1000) (hN : N ≠ 0) (v : sg s (m * 2 ^ i) = N * ((2 ^ (1074 - k) : Nat) : Int)) : 1022 ≤ i + k ∧ 0 < m := by
  have ha : m * 2 ^ i = N.natAbs * 2 ^ (1074 - k) := by
    have := congrArg Int.natAbs v
    rw [sg_abs, Int.natAbs_mul, Int.natAbs_natCast] at this
    exact this
  have h1 : 1 ≤ N.natAbs := by omega
  have h2 : 1 * 2 ^ (1074 - k) ≤ N.natAbs * 2 ^ (1074 - k) := Nat.mul_le_mul_right _ h1
  have hm0 : 0 < m := by
    rcases Nat.eq_zero_or_pos m with h | h
    · rw [h, Nat.zero_mul] at ha
      have := Nat.two_pow_pos (1074 - k)
      omega
    · exact h
  refine ⟨?_, hm0⟩
  refine Nat.le_of_not_lt fun c => ?_
  have e53 : (2 : Nat) ^ 53 = 9007199254740992 := by decide
  have h3 : m * 2 ^ i < 2 ^ 53 * 2 ^ i := Nat.mul_lt_mul_of_pos_right (by omega) (Nat.two_pow_pos _)
  have h4 : (2 : Nat) ^ 53 * 2 ^ i ≤ 2 ^ (1074 - k) := by
    rw [← Nat.pow_add]
    exact Nat.pow_le_pow_right (by decide) (by omega)
  omega
theorem is_mul {x y : Nat} {N M : Int} {a b : Nat} (hx : Is x N a) (hy : Is y M b) (hab : a + b ≤ 900) (h : (N * M).natAbs ≤ 9007199254740992) : ∃ r, floatBits .mul .f64 x y = some r ∧ Is r (N * M) (a + b) := by
  obtain ⟨fx, ha, vx⟩ := hx
  obtain ⟨fy, hb, vy⟩ := hy
  obtain ⟨m, i, rx, ux, bx⟩ := read_fin2 x fx
  obtain ⟨n, j, ry, uy, bY⟩ := read_fin2 y fy
  rw [← ux] at vx
  rw [← uy] at vy
  have hr : floatBits .mul .f64 x y = some (double.nearest (sgn x ^^ sgn y) (m * n) (-1074 + (i : Int) + (-1074 + (j : Int)))) := by
    show ((double.read x).product (double.read y)).map double.write = _
    rw [rx, ry]; rfl
  refine ⟨_, hr, ?_⟩
  by_cases hz : m * n = 0
  · have : N * M = 0 := by
      rcases Nat.mul_eq_zero.1 hz with h0 | h0
      · subst h0
        rw [Nat.zero_mul] at vx
        have : N * ((2 ^ (1074 - a) : Nat) : Int) = 0 := by rw [← vx]; unfold sg; cases sgn x <;> rfl
        rcases Int.mul_eq_zero.1 this with h1 | h1
        · rw [h1, Int.zero_mul]
        · have := Nat.two_pow_pos (1074 - a); omega
      · subst h0
        rw [Nat.zero_mul] at vy
        have : M * ((2 ^ (1074 - b) : Nat) : Int) = 0 := by rw [← vy]; unfold sg; cases sgn y <;> rfl
        rcases Int.mul_eq_zero.1 this with h1 | h1
        · rw [h1, Int.mul_zero]
        · have := Nat.two_pow_pos (1074 - b); omega
    rw [hz, this]
    exact nearest_zero _ _ _ (by omega)
  · have hN : N ≠ 0 := by
      intro e
      rw [e, Int.zero_mul] at vx
      have := congrArg Int.natAbs vx
      rw [sg_abs] at this
      have h1 : m * 2 ^ i = 0 := this
      rw [mul_pow_zero] at h1
      rw [h1, Nat.zero_mul] at hz
      exact hz rfl
    have hM : M ≠ 0 := by
      intro e
      rw [e, Int.zero_mul] at vy
      have := congrArg Int.natAbs vy
      rw [sg_abs] at this
      have h1 : n * 2 ^ j = 0 := this
      rw [mul_pow_zero] at h1
      rw [h1, Nat.mul_zero] at hz
      exact hz rfl
    have p1 := (place_low bx ha hN vx).1
    have p2 := (place_low bY hb hM vy).1
    obtain ⟨p, hp⟩ : ∃ p, i + j = p + 1074 := ⟨i + j - 1074, by omega⟩
    rw [show (-1074 + (i : Int) + (-1074 + (j : Int))) = -1074 + (p : Int) from by omega]
    refine is_nearest _ _ p (N * M) (a + b) (by omega) h ?_
    have e : sg (sgn x ^^ sgn y) (m * n * 2 ^ p) * ((2 ^ 1074 : Nat) : Int) = N * M * ((2 ^ (1074 - (a + b)) : Nat) : Int) * ((2 ^ 1074 : Nat) : Int) := by
      rw [← sg_mul, Nat.mul_assoc, pow_up p 1074 (i + j) hp, show m * n * 2 ^ (i + j) = (m * 2 ^ i) * (n * 2 ^ j) from by rw [Nat.pow_add, Nat.mul_assoc, Nat.mul_assoc, Nat.mul_left_comm n], sg_xor, vx, vy]
      rw [Int.mul_assoc (N * M), ← Int.natCast_mul, pow_up (1074 - (a + b)) 1074 ((1074 - a) + (1074 - b)) (by omega), Nat.pow_add, Int.natCast_mul]
      rw [Int.mul_assoc, Int.mul_assoc, Int.mul_left_comm M]
    exact cancel_pow 1074 e

/-! ### Order -/
theorem Is.notNaN {b : Nat} {N : Int} {k : Nat} (h : Is b N k) : isNaN b = false := by
  have := h.1
  unfold isNaN; simp; omega
theorem is_lt {x y : Nat} {N M : Int} {k : Nat} (hx : Is x N k) (hy : Is y M k) : (key x < key y ↔ N < M) ∧ (key x = key y ↔ N = M) := by
  have hp : (0 : Int) < ((2 ^ (1074 - k) : Nat) : Int) := by have := Nat.two_pow_pos (1074 - k); omega
  have e1 := sg_lt_iff (units_lt_iff (rung x) (rung y)) (units_lt_iff (rung y) (rung x)) (units_zero_iff (rung x)) (units_zero_iff (rung y)) (sgn x) (sgn y)
  have e2 := sg_eq_iff (units_lt_iff (rung x) (rung y)) (units_lt_iff (rung y) (rung x)) (units_zero_iff (rung x)) (units_zero_iff (rung y)) (sgn x) (sgn y)
  rw [hx.2.2, hy.2.2] at e1 e2
  refine ⟨e1.symm.trans ?_, e2.symm.trans ?_⟩
  · exact ⟨fun h => Int.lt_of_mul_lt_mul_right h (Int.le_of_lt hp), fun h => Int.mul_lt_mul_of_pos_right h hp⟩
  · exact ⟨fun h => Int.eq_of_mul_eq_mul_right (by omega) h, fun h => by rw [h]⟩
theorem ord_eq {x y : Nat} {N M : Int} {k : Nat} (hx : Is x N k) (hy : Is y M k) : (FloatKind.f64.format.order x y == some .eq) = decide (N = M) := by
  have e : (FloatKind.f64.format.order x y == some .eq) = _ := eq_key x y
  rw [e, hx.notNaN, hy.notNaN, Bool.eq_iff_iff]
  simp [(is_lt hx hy).2]
theorem ord_lt {x y : Nat} {N M : Int} {k : Nat} (hx : Is x N k) (hy : Is y M k) : (FloatKind.f64.format.order x y == some .lt) = decide (N < M) := by
  have e : (FloatKind.f64.format.order x y == some .lt) = _ := lt_key x y
  rw [e, hx.notNaN, hy.notNaN, Bool.eq_iff_iff]
  simp [(is_lt hx hy).1]
theorem ord_gt {x y : Nat} {N M : Int} {k : Nat} (hx : Is x N k) (hy : Is y M k) : (FloatKind.f64.format.order x y == some .gt) = decide (M < N) := by
  have e : (FloatKind.f64.format.order x y == some .gt) = _ := gt_key x y
  rw [e, hx.notNaN, hy.notNaN, Bool.eq_iff_iff]
  simp [(is_lt hy hx).1]

/-! ### The whole part -/
theorem ceil_up (m g : Nat) (hg : 0 < g) : -((m / g + (m % g != 0).toNat : Nat) : Int) = (-(m : Int)) / (g : Int) := by
  obtain ⟨q, hq⟩ : ∃ q, q = m / g := ⟨_, rfl⟩
  obtain ⟨r, hr⟩ : ∃ r, r = m % g := ⟨_, rfl⟩
  have hm : g * q + r = m := by rw [hq, hr]; exact Nat.div_add_mod m g
  have hrl : r < g := by rw [hr]; exact Nat.mod_lt _ hg
  rw [← hq, ← hr]
  by_cases h0 : r = 0
  · subst h0
    have e : (-(m : Int)) = -(q : Int) * (g : Int) := by rw [← hm, Nat.add_zero, Int.natCast_mul, Int.neg_mul, Int.mul_comm (g : Int)]
    rw [e, Int.mul_ediv_cancel _ (by omega)]
    simp
  · have e : (-(m : Int)) = ((g : Int) - r) + (-(q : Int) - 1) * (g : Int) := by
      rw [← hm, Int.sub_mul, Int.neg_mul, Int.natCast_add, Int.natCast_mul, Int.mul_comm (q : Int)]
      omega
    rw [e, Int.add_mul_ediv_right _ _ (by omega), Int.ediv_eq_zero_of_lt (by omega) (by omega)]
    have : (r != 0) = true := by simpa using h0
    rw [this]
    simp; omega
theorem pow_min (m d : Nat) : m / 2 ^ min d (m.log2 + 2) = m / 2 ^ d ∧ (m % 2 ^ min d (m.log2 + 2) != 0) = (m % 2 ^ d != 0) := by
  by_cases h : d ≤ m.log2 + 2
  · rw [Nat.min_eq_left h]; exact ⟨rfl, rfl⟩
  · rw [Nat.min_eq_right (by omega)]
    have h1 : m < 2 ^ (m.log2 + 1) := Nat.lt_log2_self
    have h2 : 2 ^ (m.log2 + 1) ≤ 2 ^ (m.log2 + 2) := Nat.pow_le_pow_right (by decide) (by omega)
    have h3 : 2 ^ (m.log2 + 1) ≤ 2 ^ d := Nat.pow_le_pow_right (by decide) (by omega)
    rw [Nat.div_eq_of_lt (by omega), Nat.div_eq_of_lt (by omega), Nat.mod_eq_of_lt (by omega), Nat.mod_eq_of_lt (by omega)]
    exact ⟨rfl, rfl⟩
theorem sg_cut_down (s : Bool) (m d : Nat) : sg s (Toward.down.cut s m d) = sg s m / ((2 ^ d : Nat) : Int) := by
  have hc : Toward.down.cut s m d = m / 2 ^ d + (s && m % 2 ^ d != 0).toNat := by
    unfold Toward.cut
    simp only [Nat.shiftLeft_eq, Nat.one_mul]
    rw [(pow_min m d).1, (pow_min m d).2]
  rw [hc]
  cases s
  · show ((m / 2 ^ d + 0 : Nat) : Int) = (m : Int) / _
    rw [Nat.add_zero, Int.natCast_ediv]
  · show -((m / 2 ^ d + (true && m % 2 ^ d != 0).toNat : Nat) : Int) = (-(m : Int)) / _
    rw [Bool.true_and]
    exact ceil_up m _ (Nat.two_pow_pos _)
theorem cut_zero (s : Bool) (m d : Nat) : Toward.zero.cut s m d = m / 2 ^ d := by
  unfold Toward.cut
  simp only [Nat.shiftLeft_eq, Nat.one_mul]
  rw [(pow_min m d).1]
  rfl
/-- What is left of m * 2^i over 2^1074, where the same number is N over 2^a. -/
theorem whole_div {z N : Int} {i a : Nat} (ha : a ≤ 1000) (v : z * ((2 ^ i : Nat) : Int) = N * ((2 ^ (1074 - a) : Nat) : Int)) :
    (z * ((2 ^ (i - 1074) : Nat) : Int)) / ((2 ^ (1074 - i) : Nat) : Int) = N / ((2 ^ a : Nat) : Int) := by
  have e1 : N / ((2 ^ a : Nat) : Int) = (N * ((2 ^ (1074 - a) : Nat) : Int)) / ((2 ^ 1074 : Nat) : Int) := by
    rw [show (2 : Nat) ^ 1074 = 2 ^ a * 2 ^ (1074 - a) from by rw [← Nat.pow_add, show a + (1074 - a) = 1074 from by omega], Int.natCast_mul]
    rw [Int.mul_ediv_mul_of_pos_left _ _ (by have := Nat.two_pow_pos (1074 - a); omega)]
  rw [e1, ← v]
  by_cases c : 1074 ≤ i
  · rw [show 1074 - i = 0 from by omega, show (2 : Nat) ^ i = 2 ^ (i - 1074) * 2 ^ 1074 from (pow_up (i - 1074) 1074 i (by omega)).symm, Int.natCast_mul, ← Int.mul_assoc,
      ediv_pow 1074]
    simp
  · rw [show i - 1074 = 0 from by omega, show (2 : Nat) ^ 1074 = 2 ^ (1074 - i) * 2 ^ i from by rw [← Nat.pow_add, show 1074 - i + i = 1074 from by omega], Int.natCast_mul,
      Int.mul_ediv_mul_of_pos_left _ _ (by have := Nat.two_pow_pos i; omega)]
    simp
theorem places (i : Nat) : (-1074 + (i : Int)).toNat = i - 1074 ∧ (-(-1074 + (i : Int))).toNat = 1074 - i := by omega
/-- The floor of a word. -/
theorem is_floor {x : Nat} {N : Int} {a : Nat} (hx : Is x N a) (h : (N / ((2 ^ a : Nat) : Int)).natAbs ≤ 9007199254740992) :
    ∃ s m p, double.read x = .number s m p ∧ Is (double.write ((Datum.number s m p).integral .down)) (N / ((2 ^ a : Nat) : Int)) 0 := by
  obtain ⟨fx, ha, vx⟩ := hx
  obtain ⟨m, i, rx, ux⟩ := read_fin x fx
  refine ⟨_, _, _, rx, ?_⟩
  have e : double.write ((Datum.number (sgn x) m (-1074 + (i : Int))).integral .down) = double.nearest (sgn x) (Toward.down.cut (sgn x) (m * 2 ^ (i - 1074)) (1074 - i)) (-1074 + ((1074 : Nat) : Int)) := by
    have e0 : (-1074 + ((1074 : Nat) : Int)) = 0 := by decide
    rw [e0]
    show double.nearest (sgn x) (Toward.down.cut (sgn x) (m <<< (-1074 + (i : Int)).toNat) (-(-1074 + (i : Int))).toNat) 0 = _
    rw [(places i).1, (places i).2, Nat.shiftLeft_eq]
  rw [e]
  refine is_nearest _ _ 1074 _ 0 (by omega) h ?_
  rw [sg_mul, sg_cut_down, Nat.sub_zero, sg_mul]
  congr 1
  refine whole_div ha ?_
  rw [← sg_mul, ux, vx]
/-- 'int64(x)': cut toward zero. -/
theorem is_toInt {x : Nat} {N : Int} {a : Nat} (hx : Is x N a) (h : N.natAbs / 2 ^ a ≤ 9007199254740992) :
    floatToIntVal .f64 x .i64 = some (if N < 0 then -((N.natAbs / 2 ^ a : Nat) : Int) else ((N.natAbs / 2 ^ a : Nat) : Int)) := by
  obtain ⟨fx, ha, vx⟩ := hx
  obtain ⟨m, i, rx, ux⟩ := read_fin x fx
  rw [← ux] at vx
  have hv : m * 2 ^ i = N.natAbs * 2 ^ (1074 - a) := by
    have := congrArg Int.natAbs vx
    rw [sg_abs, Int.natAbs_mul, Int.natAbs_natCast] at this
    exact this
  have hw : (m * 2 ^ (i - 1074)) / 2 ^ (1074 - i) = N.natAbs / 2 ^ a := by
    have := whole_div (z := (m : Int)) (N := (N.natAbs : Int)) (i := i) (a := a) ha (by rw [← Int.natCast_mul, ← Int.natCast_mul, hv])
    rw [← Int.natCast_mul, ← Int.natCast_ediv, ← Int.natCast_ediv] at this
    exact Int.ofNat.inj this
  have ht : (FloatKind.f64.decode x).toInt .zero = some (sg (sgn x) (N.natAbs / 2 ^ a)) := by
    show (double.read x).toInt .zero = _
    rw [rx]
    show some (signed (sgn x) (Toward.zero.cut (sgn x) (m <<< (-1074 + (i : Int)).toNat) (-(-1074 + (i : Int))).toNat) 0) = _
    rw [(places i).1, (places i).2, Nat.shiftLeft_eq, cut_zero, hw, signed_eq, Nat.pow_zero, Nat.mul_one]
  have hsg : sg (sgn x) (N.natAbs / 2 ^ a) = if N < 0 then -((N.natAbs / 2 ^ a : Nat) : Int) else ((N.natAbs / 2 ^ a : Nat) : Int) := by
    have hp := Nat.two_pow_pos (1074 - a)
    by_cases hN : N < 0
    · rw [if_pos hN]
      have : sgn x = true := by
        cases hs : sgn x
        · rw [hs] at vx
          have : (0 : Int) ≤ sg false (m * 2 ^ i) := Int.natCast_nonneg _
          rw [vx] at this
          have := Int.mul_neg_of_neg_of_pos hN (show (0 : Int) < ((2 ^ (1074 - a) : Nat) : Int) by omega)
          omega
        · rfl
      rw [this]; rfl
    · rw [if_neg hN]
      by_cases h0 : N = 0
      · subst h0; simp [sg]
      · have : sgn x = false := by
          cases hs : sgn x
          · rfl
          · rw [hs] at vx
            have : sg true (m * 2 ^ i) ≤ 0 := Int.neg_nonpos_of_nonneg (Int.natCast_nonneg _)
            rw [vx] at this
            have := Int.mul_pos (show 0 < N by omega) (show (0 : Int) < ((2 ^ (1074 - a) : Nat) : Int) by omega)
            omega
        rw [this]; rfl
  unfold floatToIntVal
  rw [ht, hsg]
  simp only
  rw [if_pos]
  have e1 : IntKind.i64.min = -9223372036854775808 := rfl
  have e2 : IntKind.i64.max = 9223372036854775807 := rfl
  rw [e1, e2]
  obtain ⟨q, hq⟩ : ∃ q, q = N.natAbs / 2 ^ a := ⟨_, rfl⟩
  rw [← hq] at h ⊢
  split <;> omega

/-- 'x / 1024'. -/
theorem is_div1024 {x : Nat} {N : Int} {a : Nat} (hx : Is x N a) (ha2 : a ≤ 800) (h : N.natAbs ≤ 9007199254740992) : ∃ r, floatBits .quo .f64 x 4652218415073722368 = some r ∧ Is r N (a + 10) := by
  obtain ⟨fx, ha, vx⟩ := hx
  obtain ⟨m, i, rx, ux, bx⟩ := read_fin2 x fx
  rw [← ux] at vx
  have ry : double.read 4652218415073722368 = .number false 4503599627370496 (-42) := by decide
  have hl : m.log2 ≤ 52 := by
    rcases Nat.eq_zero_or_pos m with h0 | h0
    · subst h0; decide
    · have := (Nat.log2_lt (n := m) (k := 53) (by omega)).2 (by simpa using bx); omega
  have lg : (4503599627370496 : Nat).log2 = 52 := log2_unique (by decide) (by decide)
  obtain ⟨more, hmore⟩ : ∃ more, more = 54 + 52 - m.log2 := ⟨_, rfl⟩
  have hq : m * 2 ^ more / 4503599627370496 = m * 2 ^ (more - 52) ∧ m * 2 ^ more % 4503599627370496 = 0 := by
    have e : m * 2 ^ more = m * 2 ^ (more - 52) * 4503599627370496 := by
      rw [← two52, Nat.mul_assoc, ← Nat.pow_add, show more - 52 + 52 = more from by omega]
    rw [e]
    exact ⟨Nat.mul_div_cancel _ (by decide), Nat.mul_mod_left _ _⟩
  have hr : floatBits .quo .f64 x 4652218415073722368 = some (double.nearest (sgn x ^^ false) (2 * (m * 2 ^ (more - 52))) (-1074 + (i : Int) - (-42) - (more : Int) - 1)) := by
    show ((double.read x).quotient (52 + 2) (double.read 4652218415073722368)).map double.write = _
    rw [rx, ry]
    simp only [Datum.quotient, lg, Nat.shiftLeft_eq]
    rw [show 52 + 2 + 52 - m.log2 = more from by omega, hq.1, hq.2]
    simp only [show ¬ ((4503599627370496 : Nat) = 0) from by decide, if_false]
    rfl
  refine ⟨_, hr, ?_⟩
  rw [Bool.xor_false]
  by_cases hN : N = 0
  · have hm : m = 0 := by
      rw [hN, Int.zero_mul] at vx
      have := congrArg Int.natAbs vx
      rw [sg_abs] at this
      have h1 : m * 2 ^ i = 0 := this
      rwa [mul_pow_zero] at h1
    rw [hm, hN, Nat.zero_mul, Nat.mul_zero]
    exact nearest_zero _ _ _ (by omega)
  · have pl := (place_low bx ha hN vx).1
    obtain ⟨p, hp⟩ : ∃ p : Nat, (p : Int) = (i : Int) + 41 - more := ⟨i + 41 - more, by omega⟩
    rw [show (-1074 + (i : Int) - (-42) - (more : Int) - 1) = -1074 + (p : Int) from by omega]
    refine is_nearest _ _ p N (a + 10) (by omega) h ?_
    have e : sg (sgn x) (2 * (m * 2 ^ (more - 52)) * 2 ^ p) * ((2 ^ 10 : Nat) : Int) = N * ((2 ^ (1074 - (a + 10)) : Nat) : Int) * ((2 ^ 10 : Nat) : Int) := by
      rw [← sg_mul, show 2 * (m * 2 ^ (more - 52)) * 2 ^ p * 2 ^ 10 = m * 2 ^ i from by
        rw [show i = 1 + (more - 52) + p + 10 from by omega, Nat.pow_add, Nat.pow_add, Nat.pow_add, Nat.pow_one]
        rw [Nat.mul_left_comm 2 m, Nat.mul_assoc, Nat.mul_assoc, ← Nat.mul_assoc (2 * 2 ^ (more - 52))], vx]
      rw [Int.mul_assoc, ← Int.natCast_mul, ← Nat.pow_add, show 1074 - (a + 10) + 10 = 1074 - a from by omega]
    exact Int.eq_of_mul_eq_mul_right (by decide) e
end FloatKey
