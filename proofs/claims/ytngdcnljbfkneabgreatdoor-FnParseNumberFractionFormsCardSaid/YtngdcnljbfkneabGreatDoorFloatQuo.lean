/- Plain facts on float64 words: quotients by 10 and by 1000 that come out even are exact. No program in sight. -/
import Derived.Test.YtngdcnljbfkneabGreatDoorFloatVal
namespace FloatKey
open Ieee Go

theorem is_quo {x : Nat} {Q : Int} {a : Nat} (y c e o g : Nat) (ry : double.read y = .number false (c * 2 ^ e) (-(e : Int))) (lg : (c * 2 ^ e).log2 = 52) (ho : c * 2 ^ e = o * 2 ^ g) (hg : g ≤ 54) (hodd : Nat.Coprime o 2) (hc : 0 < c)
    (hx : Is x ((c : Int) * Q) a) (ha2 : a ≤ 800) (h : Q.natAbs ≤ 9007199254740992) : ∃ r, floatBits .quo .f64 x y = some r ∧ Is r Q a := by
  obtain ⟨fx, ha, vx⟩ := hx
  obtain ⟨m, i, rx, ux, bx⟩ := read_fin2 x fx
  rw [← ux] at vx
  have hl : m.log2 ≤ 52 := by
    rcases Nat.eq_zero_or_pos m with h0 | h0
    · subst h0; decide
    · have := (Nat.log2_lt (n := m) (k := 53) (by omega)).2 (by simpa using bx); omega
  obtain ⟨n, hn⟩ : ∃ n, c * 2 ^ e = n := ⟨_, rfl⟩
  have hn0 : 0 < n := by rw [← hn]; exact Nat.mul_pos hc (Nat.two_pow_pos _)
  have vn : m * 2 ^ i = c * Q.natAbs * 2 ^ (1074 - a) := by
    have := congrArg Int.natAbs vx
    rw [sg_abs, Int.natAbs_mul, Int.natAbs_mul, Int.natAbs_natCast, Int.natAbs_natCast] at this
    exact this
  have hdv : o ∣ m := by
    have h1 : o ∣ m * 2 ^ (i + e) := by
      refine ⟨2 ^ g * (Q.natAbs * 2 ^ (1074 - a)), ?_⟩
      rw [Nat.pow_add, ← Nat.mul_assoc, vn, ← Nat.mul_assoc, ← ho]
      rw [Nat.mul_assoc (c * Q.natAbs), Nat.mul_assoc c, Nat.mul_assoc c]
      simp only [Nat.mul_comm, Nat.mul_left_comm]
    exact (Nat.Coprime.pow_right (i + e) hodd).dvd_of_dvd_mul_right h1
  obtain ⟨m', hm'⟩ := hdv
  obtain ⟨more, hmore⟩ : ∃ more, more = 54 + 52 - m.log2 := ⟨_, rfl⟩
  have hq : m * 2 ^ more / n = m' * 2 ^ (more - g) ∧ m * 2 ^ more % n = 0 := by
    have e1 : m * 2 ^ more = m' * 2 ^ (more - g) * n := by
      rw [← hn, ho, hm', Nat.mul_comm o m', Nat.mul_assoc, Nat.mul_assoc]
      congr 1
      rw [Nat.mul_left_comm, ← Nat.pow_add, show more - g + g = more from by omega]
    rw [e1]
    exact ⟨Nat.mul_div_cancel _ hn0, Nat.mul_mod_left _ _⟩
  rw [hn] at ry lg
  have hr : floatBits .quo .f64 x y = some (double.nearest (sgn x ^^ false) (2 * (m' * 2 ^ (more - g))) (-1074 + (i : Int) - (-(e : Int)) - (more : Int) - 1)) := by
    show ((double.read x).quotient (52 + 2) (double.read y)).map double.write = _
    rw [rx, ry]
    simp only [Datum.quotient, lg, Nat.shiftLeft_eq]
    rw [show 52 + 2 + 52 - m.log2 = more from by omega, hq.1, hq.2]
    simp only [show ¬ (n = 0) from by omega, if_false]
    rfl
  refine ⟨_, hr, ?_⟩
  rw [Bool.xor_false]
  by_cases hQ : Q = 0
  · have hm : m' = 0 := by
      rw [hQ, Int.natAbs_zero, Nat.mul_zero, Nat.zero_mul, mul_pow_zero, hm'] at vn
      rcases Nat.mul_eq_zero.1 vn with h0 | h0
      · rw [h0, Nat.zero_mul] at ho
        rw [hn] at ho
        omega
      · exact h0
    rw [hm, hQ, Nat.zero_mul, Nat.mul_zero]
    exact nearest_zero _ _ _ (by omega)
  · have hcQ : (c : Int) * Q ≠ 0 := Int.mul_ne_zero (by omega) hQ
    have pl := (place_low bx ha hcQ vx).1
    obtain ⟨p, hp⟩ : ∃ p : Nat, (p : Int) = (i : Int) + e - more - 1 := ⟨i + e - more - 1, by omega⟩
    rw [show (-1074 + (i : Int) - (-(e : Int)) - (more : Int) - 1) = -1074 + (p : Int) from by omega]
    refine is_nearest _ _ p Q a (by omega) h ?_
    have e1 : 2 * (m' * 2 ^ (more - g)) * 2 ^ p * n = m * 2 ^ i * 2 ^ e := by
      rw [← hn, ho, hm']
      rw [show 2 * (m' * 2 ^ (more - g)) * 2 ^ p * (o * 2 ^ g) = o * m' * (2 ^ 1 * 2 ^ (more - g) * 2 ^ p * 2 ^ g) from by
        rw [Nat.pow_one]
        simp only [Nat.mul_comm, Nat.mul_left_comm, Nat.mul_assoc]]
      rw [← Nat.pow_add, ← Nat.pow_add, ← Nat.pow_add, Nat.mul_assoc (o * m'), ← Nat.pow_add]
      congr 2
      omega
    have e2 : sg (sgn x) (2 * (m' * 2 ^ (more - g)) * 2 ^ p) * (n : Int) = Q * ((2 ^ (1074 - a) : Nat) : Int) * (n : Int) := by
      rw [← sg_mul, e1, sg_mul, vx, ← hn, Int.natCast_mul]
      simp only [Int.mul_comm, Int.mul_left_comm, Int.mul_assoc]
    exact Int.eq_of_mul_eq_mul_right (by omega) e2
theorem is_div10 {x : Nat} {Q : Int} {a : Nat} (hx : Is x (10 * Q) a) (ha2 : a ≤ 800) (h : Q.natAbs ≤ 9007199254740992) : ∃ r, floatBits .quo .f64 x 4621819117588971520 = some r ∧ Is r Q a :=
  is_quo 4621819117588971520 10 49 5 50 (by decide) (by decide) (by decide) (by decide) (by decide) (by decide) hx ha2 h
theorem is_div1000 {x : Nat} {Q : Int} {a : Nat} (hx : Is x (1000 * Q) a) (ha2 : a ≤ 800) (h : Q.natAbs ≤ 9007199254740992) : ∃ r, floatBits .quo .f64 x 4652007308841189376 = some r ∧ Is r Q a :=
  is_quo 4652007308841189376 1000 43 125 46 (by decide) (by decide) (by decide) (by decide) (by decide) (by decide) hx ha2 h
end FloatKey
