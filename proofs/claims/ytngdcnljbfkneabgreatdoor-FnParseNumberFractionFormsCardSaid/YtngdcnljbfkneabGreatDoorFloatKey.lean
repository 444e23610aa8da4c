/- Plain facts on float64 words: the order of two words is the order of two whole numbers (their keys). No program in sight. -/
import Ieee.Arith
import Derived.Laws.FloatBits
import GoSem.Core.Float
import GoSem.Op.Unary
namespace FloatKey
open Ieee

/-- A word's rung: its lower 63 bits. -/
def rung (b : Nat) : Nat := b % 9223372036854775808
def sgn (b : Nat) : Bool := b / 9223372036854775808 % 2 == 1
def isNaN (b : Nat) : Bool := decide (9218868437227405312 < rung b)
def isInf (b : Nat) : Bool := decide (9218868437227405312 = rung b)
def sg (s : Bool) (n : Nat) : Int := if s then -(n : Int) else (n : Int)
def key (b : Nat) : Int := sg (sgn b) (rung b)

/-- The magnitude of a finite word, in units of the least subnormal number. -/
def units (r : Nat) : Nat := if r < 4503599627370496 then r else (4503599627370496 + r % 4503599627370496) * 2 ^ (r / 4503599627370496 - 1)

theorem two52 : (2 : Nat) ^ 52 = 4503599627370496 := by decide
theorem d_binade : double.binade = 4503599627370496 := by decide
theorem d_sign : double.signWeight = 9223372036854775808 := by decide
theorem d_inf : double.infRung = 9218868437227405312 := by decide
theorem d_least : double.leastPlace = -1074 := by decide
theorem d_frac : double.fractionBits = 52 := by decide

theorem units_lo (r : Nat) (h : 4503599627370496 ≤ r) : 4503599627370496 * 2 ^ (r / 4503599627370496 - 1) ≤ units r ∧ units r < 4503599627370496 * 2 ^ (r / 4503599627370496) := by
  unfold units
  rw [if_neg (by omega)]
  have hm : r % 4503599627370496 < 4503599627370496 := Nat.mod_lt _ (by omega)
  have hq : 1 ≤ r / 4503599627370496 := by omega
  have hp : 2 ^ (r / 4503599627370496) = 2 * 2 ^ (r / 4503599627370496 - 1) := by
    conv => lhs; rw [show r / 4503599627370496 = (r / 4503599627370496 - 1) + 1 from by omega, Nat.pow_succ]
    omega
  refine ⟨Nat.mul_le_mul_right _ (by omega), ?_⟩
  rw [hp, ← Nat.mul_assoc]
  exact Nat.mul_lt_mul_of_pos_right (by omega) (Nat.two_pow_pos _)

theorem units_mono {a b : Nat} (h : a < b) : units a < units b := by
  by_cases hb : b < 4503599627370496
  · unfold units
    rw [if_pos (by omega), if_pos hb]
    exact h
  by_cases ha : a < 4503599627370496
  · have := (units_lo b (by omega)).1
    have h1 : 1 ≤ 2 ^ (b / 4503599627370496 - 1) := Nat.two_pow_pos _
    have h2 : 4503599627370496 * 1 ≤ 4503599627370496 * 2 ^ (b / 4503599627370496 - 1) := Nat.mul_le_mul_left _ h1
    have ea : units a = a := by unfold units; rw [if_pos ha]
    omega
  by_cases hq : a / 4503599627370496 = b / 4503599627370496
  · unfold units
    rw [if_neg ha, if_neg hb, hq]
    exact Nat.mul_lt_mul_of_pos_right (by omega) (Nat.two_pow_pos _)
  · have h1 := (units_lo a (by omega)).2
    have h2 := (units_lo b (by omega)).1
    have h3 : 2 ^ (a / 4503599627370496) ≤ 2 ^ (b / 4503599627370496 - 1) := Nat.pow_le_pow_right (by omega) (by omega)
    have h4 := Nat.mul_le_mul_left 4503599627370496 h3
    omega

theorem units_lt_iff (a b : Nat) : units a < units b ↔ a < b := by
  constructor
  · intro h
    by_cases e : a = b
    · subst e; omega
    · by_cases g : b < a
      · have := units_mono g; omega
      · omega
  · exact units_mono

theorem units_zero_iff (a : Nat) : units a = 0 ↔ a = 0 := by
  have h0 : units 0 = 0 := rfl
  have := units_lt_iff 0 a
  omega

/-- What a finite word reads as. -/
theorem read_fin (b : Nat) (h : rung b < 9218868437227405312) : ∃ m k : Nat, double.read b = .number (sgn b) m (-1074 + (k : Int)) ∧ m * 2 ^ k = units (rung b) := by
  unfold Format.read
  rw [d_binade, d_sign, d_inf, d_least]
  by_cases hl : rung b < 4503599627370496
  · refine ⟨rung b, 0, ?_, ?_⟩
    · have hl' : b % 9223372036854775808 < 4503599627370496 := hl
      simp only [if_pos hl']
      rfl
    · unfold units; rw [if_pos hl]; omega
  · refine ⟨4503599627370496 + rung b % 4503599627370496, rung b / 4503599627370496 - 1, ?_, ?_⟩
    · have hl' : ¬ b % 9223372036854775808 < 4503599627370496 := hl
      have h' : b % 9223372036854775808 < 9218868437227405312 := h
      simp only [if_neg hl', if_pos h']
      rfl
    · unfold units; rw [if_neg hl]

theorem read_inf (b : Nat) (h : rung b = 9218868437227405312) : double.read b = .infinity (sgn b) := by
  unfold Format.read
  rw [d_binade, d_sign, d_inf, d_least]
  have h' : b % 9223372036854775808 = 9218868437227405312 := h
  simp only [h']
  rfl

theorem read_nan (b : Nat) (h : 9218868437227405312 < rung b) : double.read b = .nan (sgn b) (rung b - 9218868437227405312) := by
  unfold Format.read
  rw [d_binade, d_sign, d_inf, d_least]
  have h' : 9218868437227405312 < b % 9223372036854775808 := h
  have h1 : ¬ b % 9223372036854775808 < 4503599627370496 := by omega
  have h2 : ¬ b % 9223372036854775808 < 9218868437227405312 := by omega
  have h3 : ¬ b % 9223372036854775808 = 9218868437227405312 := by omega
  simp only [if_neg h1, if_neg h2, if_neg h3]
  rfl

theorem signed_eq (s : Bool) (m k : Nat) : signed s m k = sg s (m * 2 ^ k) := by
  unfold signed sg
  simp only [Nat.shiftLeft_eq]

theorem sg_lt_iff {a b fa fb : Nat} (h1 : fa < fb ↔ a < b) (h2 : fb < fa ↔ b < a) (h3 : fa = 0 ↔ a = 0) (h4 : fb = 0 ↔ b = 0) (s t : Bool) : sg s fa < sg t fb ↔ sg s a < sg t b := by
  unfold sg; cases s <;> cases t <;> simp <;> omega
theorem sg_eq_iff {a b fa fb : Nat} (h1 : fa < fb ↔ a < b) (h2 : fb < fa ↔ b < a) (h3 : fa = 0 ↔ a = 0) (h4 : fb = 0 ↔ b = 0) (s t : Bool) : sg s fa = sg t fb ↔ sg s a = sg t b := by
  unfold sg; cases s <;> cases t <;> simp <;> omega

theorem compare_congr {a b c d : Int} (h1 : a < b ↔ c < d) (h2 : a = b ↔ c = d) : compare a b = compare c d := by
  show compareOfLessAndEq a b = compareOfLessAndEq c d
  unfold compareOfLessAndEq
  simp only [h1, h2]

theorem mul_pow_cancel (m n a b c : Nat) : (m * 2 ^ (a + c) < n * 2 ^ (b + c) ↔ m * 2 ^ a < n * 2 ^ b) := by
  rw [Nat.pow_add, Nat.pow_add, ← Nat.mul_assoc, ← Nat.mul_assoc]
  exact Nat.mul_lt_mul_right (Nat.two_pow_pos c)

theorem mul_pow_zero (m a : Nat) : m * 2 ^ a = 0 ↔ m = 0 := by
  have := Nat.two_pow_pos a
  constructor
  · intro h; rcases Nat.mul_eq_zero.1 h with h | h <;> omega
  · intro h; subst h; simp

theorem compare_fin (s t : Bool) (m n i j a b : Nat) (hm : m * 2 ^ i = units a) (hn : n * 2 ^ j = units b) :
    compare (signed s m ((-1074 + (i : Int)) - min (-1074 + (i : Int)) (-1074 + (j : Int))).toNat) (signed t n ((-1074 + (j : Int)) - min (-1074 + (i : Int)) (-1074 + (j : Int))).toNat) = compare (sg s a) (sg t b) := by
  have e1 : ((-1074 + (i : Int)) - min (-1074 + (i : Int)) (-1074 + (j : Int))).toNat = i - min i j := by omega
  have e2 : ((-1074 + (j : Int)) - min (-1074 + (i : Int)) (-1074 + (j : Int))).toNat = j - min i j := by omega
  rw [e1, e2, signed_eq, signed_eq]
  have hi : i - min i j + min i j = i := by omega
  have hj : j - min i j + min i j = j := by omega
  have k1 : m * 2 ^ (i - min i j) < n * 2 ^ (j - min i j) ↔ a < b := by
    rw [← mul_pow_cancel _ _ _ _ (min i j), hi, hj, hm, hn]; exact units_lt_iff a b
  have k2 : n * 2 ^ (j - min i j) < m * 2 ^ (i - min i j) ↔ b < a := by
    rw [← mul_pow_cancel _ _ _ _ (min i j), hi, hj, hm, hn]; exact units_lt_iff b a
  have k3 : m * 2 ^ (i - min i j) = 0 ↔ a = 0 := by
    rw [mul_pow_zero, ← mul_pow_zero m i, hm]; exact units_zero_iff a
  have k4 : n * 2 ^ (j - min i j) = 0 ↔ b = 0 := by
    rw [mul_pow_zero, ← mul_pow_zero n j, hn]; exact units_zero_iff b
  exact compare_congr (sg_lt_iff k1 k2 k3 k4 s t) (sg_eq_iff k1 k2 k3 k4 s t)

theorem compare_lt {a b : Int} (h : a < b) : compare a b = .lt := by
  show compareOfLessAndEq a b = _
  unfold compareOfLessAndEq; rw [if_pos h]
theorem compare_gt {a b : Int} (h : b < a) : compare a b = .gt := by
  show compareOfLessAndEq a b = _
  unfold compareOfLessAndEq; rw [if_neg (by omega), if_neg (by omega)]
theorem compare_self (a : Int) : compare a a = .eq := by
  show compareOfLessAndEq a a = _
  unfold compareOfLessAndEq; rw [if_neg (by omega), if_pos rfl]

/-- THE ORDER OF TWO WORDS THAT ARE NO NaN: the order of their keys. -/
theorem order_key (x y : Nat) (hx : isNaN x = false) (hy : isNaN y = false) : double.order x y = some (compare (key x) (key y)) := by
  unfold isNaN at hx hy
  simp only [decide_eq_false_iff_not] at hx hy
  unfold Format.order key
  by_cases ex : rung x < 9218868437227405312
  · obtain ⟨m, i, hr, hm⟩ := read_fin x ex
    by_cases ey : rung y < 9218868437227405312
    · obtain ⟨n, j, hs, hn⟩ := read_fin y ey
      rw [hr, hs]
      show some _ = _
      exact congrArg some (compare_fin _ _ m n i j _ _ hm hn)
    · rw [hr, read_inf y (by omega)]
      have e : rung y = 9218868437227405312 := by omega
      show some (if sgn y then Ordering.gt else Ordering.lt) = _
      rw [e]
      cases hy' : sgn y
      · exact congrArg some (compare_lt (by unfold sg; cases sgn x <;> simp <;> omega)).symm
      · exact congrArg some (compare_gt (by unfold sg; cases sgn x <;> simp <;> omega)).symm
  · have e : rung x = 9218868437227405312 := by omega
    by_cases ey : rung y < 9218868437227405312
    · obtain ⟨n, j, hs, hn⟩ := read_fin y ey
      rw [read_inf x e, hs]
      show some (if sgn x then Ordering.lt else Ordering.gt) = _
      rw [e]
      cases hx' : sgn x
      · exact congrArg some (compare_gt (by unfold sg; cases sgn y <;> simp <;> omega)).symm
      · exact congrArg some (compare_lt (by unfold sg; cases sgn y <;> simp <;> omega)).symm
    · have ey' : rung y = 9218868437227405312 := by omega
      rw [read_inf x e, read_inf y ey', e, ey']
      show some (compare (sgn y).toNat (sgn x).toNat) = _
      cases sgn x <;> cases sgn y
      · exact congrArg some (compare_self _).symm
      · exact congrArg some (compare_gt (by unfold sg; simp)).symm
      · exact congrArg some (compare_lt (by unfold sg; simp)).symm
      · exact congrArg some (compare_self _).symm

theorem order_nanL (x y : Nat) (hx : isNaN x = true) : double.order x y = none := by
  unfold isNaN at hx
  simp only [decide_eq_true_eq] at hx
  unfold Format.order
  rw [read_nan x hx]
  rfl
theorem order_nanR (x y : Nat) (hy : isNaN y = true) : double.order x y = none := by
  unfold isNaN at hy
  simp only [decide_eq_true_eq] at hy
  unfold Format.order
  rw [read_nan y hy]
  cases double.read x <;> rfl

/-! The six tests, by the keys. -/
theorem lt_key (x y : Nat) : (double.order x y == some .lt) = (!isNaN x && !isNaN y && decide (key x < key y)) := by
  cases hx : isNaN x
  · cases hy : isNaN y
    · rw [order_key x y hx hy]
      by_cases h : key x < key y
      · rw [compare_lt h]; simp [h]
      · by_cases e : key x = key y
        · rw [e, compare_self]; simp
        · rw [compare_gt (by omega)]; simp [h]
    · rw [order_nanR x y hy]; rfl
  · rw [order_nanL x y hx]; rfl
theorem gt_key (x y : Nat) : (double.order x y == some .gt) = (!isNaN x && !isNaN y && decide (key y < key x)) := by
  cases hx : isNaN x
  · cases hy : isNaN y
    · rw [order_key x y hx hy]
      by_cases h : key x < key y
      · rw [compare_lt h]; simp; omega
      · by_cases e : key x = key y
        · rw [e, compare_self]; simp
        · rw [compare_gt (by omega)]; simp; omega
    · rw [order_nanR x y hy]; rfl
  · rw [order_nanL x y hx]; rfl
theorem eq_key (x y : Nat) : (double.order x y == some .eq) = (!isNaN x && !isNaN y && decide (key x = key y)) := by
  cases hx : isNaN x
  · cases hy : isNaN y
    · rw [order_key x y hx hy]
      by_cases h : key x < key y
      · rw [compare_lt h]; simp; omega
      · by_cases e : key x = key y
        · rw [e, compare_self]; simp
        · rw [compare_gt (by omega)]; simp; omega
    · rw [order_nanR x y hy]; rfl
  · rw [order_nanL x y hx]; rfl

theorem eq_self (x : Nat) : (double.order x x == some .eq) = !isNaN x := by
  rw [eq_key]; cases isNaN x <;> simp

theorem neg_rung (b : Nat) : rung (Go.Op.negFloat .f64 b) = rung b := by
  have e : Go.Op.negFloat .f64 b = b ^^^ 9223372036854775808 := rfl
  rw [e]; unfold rung
  have h : (9223372036854775808 : Nat) = 2 ^ 63 := by decide
  rw [h, Nat.xor_mod_two_pow, Nat.mod_self, Nat.xor_zero]
theorem neg_sgn (b : Nat) : sgn (Go.Op.negFloat .f64 b) = !sgn b := by
  have e : Go.Op.negFloat .f64 b = b ^^^ 9223372036854775808 := rfl
  rw [e]; unfold sgn
  have h : (9223372036854775808 : Nat) = 2 ^ 63 := by decide
  have h1 : (2 : Nat) ^ 63 / 2 ^ 63 = 1 := by decide
  rw [h, Nat.xor_div_two_pow, h1]
  generalize b / 2 ^ 63 = q
  have h2 : (q ^^^ 1) % 2 = (q % 2) ^^^ (1 % 2) := Nat.xor_mod_two_pow (n := 1)
  rw [h2]
  have h3 : q % 2 = 0 ∨ q % 2 = 1 := by omega
  rcases h3 with h3 | h3 <;> rw [h3] <;> decide
theorem neg_key (b : Nat) : key (Go.Op.negFloat .f64 b) = -key b := by
  unfold key sg
  rw [neg_rung, neg_sgn]
  cases sgn b <;> simp
theorem neg_nan (b : Nat) : isNaN (Go.Op.negFloat .f64 b) = isNaN b := by unfold isNaN; rw [neg_rung]
theorem neg_inf (b : Nat) : isInf (Go.Op.negFloat .f64 b) = isInf b := by unfold isInf; rw [neg_rung]

end FloatKey
