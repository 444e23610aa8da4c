/- Plain facts on float64 words: a rounded positive number lies between the bounds of the number, where these are multiples of 2^-11 below 64. No program in sight. -/
import Derived.Test.YtclopknkophfkaaGreatDoorFloatVal
import Derived.Test.YtclopknkophfkaaGreatDoorCivil
namespace FloatKey
open Ieee Go Civil

theorem units_top (e kept : Nat) (h1 : 4503599627370496 ≤ kept) (h2 : kept ≤ 9007199254740992) : units (e * 4503599627370496 + kept) = kept * 2 ^ e := by
  rcases Nat.lt_or_ge kept 9007199254740992 with h | h
  · exact units_mk kept e h1 h
  · obtain rfl : kept = 9007199254740992 := by omega
    rw [show e * 4503599627370496 + 9007199254740992 = (e + 1) * 4503599627370496 + 4503599627370496 from by omega, units_mk 4503599627370496 (e + 1) (by decide) (by decide), Nat.pow_succ]
    omega
theorem cut_bd (mag k e A B : Nat) (h0 : 0 < mag) (he : e + 52 = mag.log2 + k) (hA : A * 2 ^ e ≤ mag * 2 ^ k) (hB : mag * 2 ^ k ≤ B * 2 ^ e) :
    ∃ kept, Toward.even.cut false (mag <<< (k - e)) (e - k) = kept ∧ 4503599627370496 ≤ kept ∧ kept ≤ 9007199254740992 ∧ A ≤ kept ∧ kept ≤ B := by
  have hlo := Nat.log2_self_le (n := mag) (by omega)
  have hhi := Nat.lt_log2_self (n := mag)
  rcases Nat.le_total e k with c | c
  · have e0 : e - k = 0 := by omega
    have ek : 2 ^ k = 2 ^ (k - e) * 2 ^ e := by rw [← Nat.pow_add, show k - e + e = k from by omega]
    rw [ek, ← Nat.mul_assoc] at hA hB
    have hA' := Nat.le_of_mul_le_mul_right hA (Nat.two_pow_pos e)
    have hB' := Nat.le_of_mul_le_mul_right hB (Nat.two_pow_pos e)
    refine ⟨mag * 2 ^ (k - e), ?_, ?_, ?_, hA', hB'⟩
    · rw [e0, Nat.shiftLeft_eq]
      exact cut_exact false _ 0 _ (by omega) (Nat.mul_pos h0 (Nat.two_pow_pos _))
    · rw [← two52, show 52 = mag.log2 + (k - e) from by omega, Nat.pow_add]
      exact Nat.mul_le_mul_right _ hlo
    · have := Nat.mul_lt_mul_of_pos_right hhi (Nat.two_pow_pos (k - e))
      rw [← Nat.pow_add, show mag.log2 + 1 + (k - e) = 53 from by omega, show (2 : Nat) ^ 53 = 9007199254740992 from by decide] at this
      omega
  · obtain ⟨d, hd⟩ : ∃ d, e = k + d := ⟨e - k, by omega⟩
    subst hd
    have e0 : k - (k + d) = 0 := by omega
    have e1 : k + d - k = d := by omega
    rw [Nat.add_comm k d, Nat.pow_add, ← Nat.mul_assoc] at hA hB
    have hA' := Nat.le_of_mul_le_mul_right hA (Nat.two_pow_pos k)
    have hB' := Nat.le_of_mul_le_mul_right hB (Nat.two_pow_pos k)
    have hL : mag.log2 = 52 + d := by omega
    rw [hL] at hlo hhi
    rw [e0, e1, Nat.shiftLeft_eq, Nat.pow_zero, Nat.mul_one]
    have hp := Nat.two_pow_pos d
    obtain ⟨G, hG⟩ : ∃ G, G = 2 ^ d := ⟨_, rfl⟩
    rw [← hG] at hA' hB' hp
    have q0 : A ≤ mag / G := by rw [Nat.le_div_iff_mul_le hp]; exact hA'
    have q1 : 4503599627370496 ≤ mag / G := by
      rw [Nat.le_div_iff_mul_le hp, ← two52, hG, ← Nat.pow_add]; exact hlo
    have q2 : mag / G < 9007199254740992 := by
      rw [Nat.div_lt_iff_lt_mul hp, show (9007199254740992 : Nat) = 2 ^ 53 from by decide, hG, ← Nat.pow_add, show 53 + d = 52 + d + 1 from by omega]; exact hhi
    have hdm := Nat.div_add_mod mag G
    have q3 : mag / G ≤ B := by
      rcases Nat.lt_or_ge B (mag / G) with h | h
      · exfalso
        have := Nat.mul_le_mul_left G (show B + 1 ≤ mag / G from h)
        rw [Nat.mul_add, Nat.mul_comm G B] at this
        omega
      · exact h
    have q4 : 0 < mag % G → mag / G + 1 ≤ B := by
      intro hr
      rcases Nat.lt_or_ge (mag / G) B with h | h
      · exact h
      · exfalso
        have := Nat.mul_le_mul_left G h
        rw [Nat.mul_comm G B] at this
        omega
    have hm : min d (mag.log2 + 2) = d := by omega
    have hc : ∃ b : Bool, Toward.even.cut false mag d = mag / G + b.toNat ∧ (b = true → 0 < mag % G) := by
      refine ⟨decide (G < 2 * (mag % G)) || (G == 2 * (mag % G) && mag / G % 2 == 1), ?_, ?_⟩
      · unfold Toward.cut
        simp only [hm, Nat.shiftLeft_eq, Nat.one_mul, ← hG]
      · intro hb
        simp at hb
        omega
    obtain ⟨b, hb, hb2⟩ := hc
    refine ⟨mag / G + b.toNat, hb, ?_, ?_, ?_, ?_⟩ <;> cases b <;> simp at hb2 ⊢ <;> omega

theorem pow_mv (kept e p : Nat) (h : p ≤ e) : kept * 2 ^ e = kept * 2 ^ (e - p) * 2 ^ p := by
  rw [Nat.mul_assoc, ← Nat.pow_add, show e - p + p = e from by omega]
theorem top_aux (L k n b mag : Nat) (hb : b ≤ 131072) (hlo : 2 ^ L ≤ mag) (h2 : mag * 2 ^ k ≤ b * 2 ^ n) : L + k ≤ 17 + n := by
  refine (Nat.pow_le_pow_iff_right (a := 2) (by decide)).1 ?_
  rw [Nat.pow_add 2 L k, Nat.pow_add 2 17 n]
  exact Nat.le_trans (Nat.mul_le_mul_right _ hlo) (Nat.le_trans h2 (Nat.mul_le_mul_right _ hb))
theorem pow1063 (e : Nat) (h : e ≤ 1063) : (2 : Nat) ^ 1063 = 2 ^ (1063 - e) * 2 ^ e := by
  have h2 : e + (1063 - e) = 1063 := by omega
  obtain ⟨n, hn⟩ : ∃ n, n = 1063 := ⟨_, rfl⟩
  rw [← hn] at h2 ⊢
  rw [← Nat.pow_add, Nat.add_comm, h2]
/-- THE ROUNDED NUMBER LIES WHERE THE NUMBER LIES. -/
theorem near_bd (mag k a b : Nat) (ha : 0 < a) (hb : b ≤ 131072) (h1 : a * 2 ^ 1063 ≤ mag * 2 ^ k) (h2 : mag * 2 ^ k ≤ b * 2 ^ 1063) :
    ∃ N : Nat, Is (double.nearest false mag (-1074 + (k : Int))) (N : Int) 63 ∧ a * 4503599627370496 ≤ N ∧ N ≤ b * 4503599627370496 := by
  have h0 : 0 < mag := by
    rcases Nat.eq_zero_or_pos mag with h | h
    · rw [h, Nat.zero_mul] at h1
      have := Nat.mul_pos ha (Nat.two_pow_pos 1063)
      exact absurd h1 (Nat.not_le.2 this)
    · exact h
  have hlo := Nat.log2_self_le (n := mag) (by omega)
  have hhi := Nat.lt_log2_self (n := mag)
  have l1 : 1063 < mag.log2 + 1 + k := by
    refine (Nat.pow_lt_pow_iff_right (a := 2) (by decide)).1 ?_
    refine Nat.lt_of_le_of_lt (Nat.le_mul_of_pos_left _ ha) (Nat.lt_of_le_of_lt h1 ?_)
    rw [Nat.pow_add 2 (mag.log2 + 1) k]
    exact Nat.mul_lt_mul_of_pos_right hhi (Nat.two_pow_pos _)
  have l2 := top_aux mag.log2 k 1063 b mag hb hlo h2
  obtain ⟨e, he⟩ : ∃ e, e + 52 = mag.log2 + k := ⟨mag.log2 + k - 52, by omega⟩
  rw [pow1063 e (by clear h1 h2; omega), ← Nat.mul_assoc] at h1 h2
  obtain ⟨kept, hk, k1, k2, k3, k4⟩ := cut_bd mag k e _ _ h0 he h1 h2
  have hlast : max (-1074 + (k : Int) + (mag.log2 : Int) - ((52 : Nat) : Int)) (-1074) = -1074 + (e : Int) := by omega
  have a1 : ((-1074 + (k : Int)) - (-1074 + (e : Int))).toNat = k - e := by omega
  have a2 : ((-1074 + (e : Int)) - (-1074 + (k : Int))).toNat = e - k := by omega
  have a3 : ((-1074 + (e : Int)) - (-1074)).toNat = e := by omega
  have hw := rung_word false (e * 4503599627370496 + kept) (by omega)
  have p52 : (2 : Nat) ^ (1063 - e) * 2 ^ (e - 1011) = 4503599627370496 := by rw [← Nat.pow_add, show 1063 - e + (e - 1011) = 52 from by omega, two52]
  refine ⟨kept * 2 ^ (e - (1074 - 63)), ?_, ?_, ?_⟩
  · have hn : double.nearest false mag (-1074 + (k : Int)) = double.word false (e * 4503599627370496 + kept) := by
      unfold Format.nearest
      rw [if_neg (by omega), d_frac, d_least, d_binade, d_inf]
      simp only [hlast, a1, a2, a3, hk]
      rw [Nat.min_eq_left (by omega)]
    rw [hn]
    refine ⟨by rw [hw.1]; omega, by decide, ?_⟩
    rw [hw.1, hw.2, units_top e kept k1 k2]
    rw [pow_mv kept e (1074 - 63) (by omega)]
    exact Int.natCast_mul _ _
  · have := Nat.mul_le_mul_right (2 ^ (e - 1011)) k3
    rw [Nat.mul_assoc, p52] at this
    exact this
  · have := Nat.mul_le_mul_right (2 ^ (e - 1011)) k4
    rw [Nat.mul_assoc, p52] at this
    exact this
/-! ### The nanoseconds of k/1024 seconds, in seconds -/
def okQ (k : Nat) : Option Nat → Bool
  | some r => k == 0 || 1024 ≤ k || (4557642822898941952 ≤ r && r ≤ 4607178020753506304)
  | none => false
theorem okQ_spec {k : Nat} {o : Option Nat} (h : okQ k o = true) (h1 : 0 < k) (h2 : k < 1024) : ∃ r, o = some r ∧ 4557642822898941952 ≤ r ∧ r ≤ 4607178020753506304 := by
  cases o with
  | none => cases h
  | some r =>
    simp [okQ] at h
    exact ⟨r, rfl, by omega, by omega⟩
def chkQ (k : Nat) : Bool := okQ k (floatBits .quo .f64 (floatOfInt .f64 ((k * 1000000000 / 1024 : Nat) : Int)) 4741671816366391296)
theorem chkQ_all : all2 chkQ 10 0 = true := by kernel_rfl
theorem pow74 : ((2 ^ (1074 - 0) : Nat) : Int) = 2048 * ((2 ^ 1063 : Nat) : Int) := by
  obtain ⟨n, hn⟩ : ∃ n, n = 1063 := ⟨_, rfl⟩
  have e : 1074 - 0 = 11 + n := by omega
  rw [← hn, e, Nat.pow_add]
  exact Int.natCast_mul _ _
theorem p52 (n m : Nat) (h : n + 52 = m) : 4503599627370496 * 2 ^ n = 2 ^ m := by rw [← h, Nat.pow_add, two52, Nat.mul_comm]
theorem p42 (n m : Nat) (h : n + 42 = m) : 9002801208229888 * 2 ^ n = 2047 * 2 ^ m := by
  rw [← h, Nat.pow_add, show (9002801208229888 : Nat) = 2047 * 2 ^ 42 from by decide, Nat.mul_assoc, Nat.mul_comm (2 ^ 42)]
theorem units_wa : units 4557642822898941952 = 2 ^ 1063 :=
  (congrArg units (show (4557642822898941952 : Nat) = 1011 * 4503599627370496 + 4503599627370496 from by decide)).trans ((units_mk 4503599627370496 1011 (by decide) (by decide)).trans (p52 1011 1063 rfl))
theorem units_wb : units 4607178020753506304 = 2047 * 2 ^ 1063 :=
  (congrArg units (show (4607178020753506304 : Nat) = 1021 * 4503599627370496 + 9002801208229888 from by decide)).trans ((units_mk 9002801208229888 1021 (by decide) (by decide)).trans (p42 1021 1063 rfl))
theorem units_le {a b : Nat} (h : a ≤ b) : units a ≤ units b := by
  rcases Nat.lt_or_ge a b with c | c
  · exact Nat.le_of_lt (units_mono c)
  · rw [show a = b from Nat.le_antisymm h c]; exact Nat.le_refl _
theorem word_bd {r U : Nat} (h1 : 4557642822898941952 ≤ r) (h2 : r ≤ 4607178020753506304) (ha : units 4557642822898941952 = U) (hb : units 4607178020753506304 = 2047 * U) :
    rung r < 9218868437227405312 ∧ sgn r = false ∧ U ≤ units (rung r) ∧ units (rung r) ≤ 2047 * U := by
  have hr : rung r = r := by unfold rung; omega
  have hs : sgn r = false := by
    unfold sgn
    rw [show r / 9223372036854775808 = 0 from by omega]
    rfl
  rw [← hb, ← ha, hr]
  exact ⟨by omega, hs, units_le h1, units_le h2⟩
/-- The quotient of the nanoseconds. -/
theorem quo_bd (k : Nat) (h1 : 0 < k) (h2 : k < 1024) : ∃ r, floatBits .quo .f64 (floatOfInt .f64 ((k * 1000000000 / 1024 : Nat) : Int)) 4741671816366391296 = some r ∧
    rung r < 9218868437227405312 ∧ sgn r = false ∧ 2 ^ 1063 ≤ units (rung r) ∧ units (rung r) ≤ 2047 * 2 ^ 1063 := by
  obtain ⟨r, hr, b1, b2⟩ := okQ_spec (all2_spec chkQ_all k (Nat.zero_le _) (by rw [Nat.zero_add]; exact h2)) h1 h2
  exact ⟨r, hr, word_bd b1 b2 units_wa units_wb⟩
/-- A whole number below 60 and a part that lies between 2^-11 and 1 - 2^-11. -/
theorem add_bd {x y : Nat} (S : Nat) (hx : Is x (S : Int) 0) (hS : S < 60) (fy : rung y < 9218868437227405312) (sy : sgn y = false) (y1 : 2 ^ 1063 ≤ units (rung y)) (y2 : units (rung y) ≤ 2047 * 2 ^ 1063) :
    ∃ (r N : Nat), floatBits .add .f64 x y = some r ∧ Is r (N : Int) 63 ∧ (2048 * S + 1) * 4503599627370496 ≤ N ∧ N ≤ (2048 * S + 2047) * 4503599627370496 := by
  obtain ⟨fx, _, vx⟩ := hx
  rw [pow74] at vx
  obtain ⟨U, hU⟩ : ∃ U : Nat, U = 2 ^ 1063 := ⟨_, rfl⟩
  have near := fun mag k a b ha hb => near_bd mag k a b ha hb
  rw [← hU] at vx y1 y2
  simp only [← hU] at near
  clear hU
  obtain ⟨m, i, rx, ux⟩ := read_fin x fx
  obtain ⟨n, j, ry, uy⟩ := read_fin y fy
  rw [← ux] at vx
  obtain ⟨p, hi, hj, hp⟩ : ∃ p : Nat, p ≤ i ∧ p ≤ j ∧ min (-1074 + (i : Int)) (-1074 + (j : Int)) = -1074 + (p : Int) := ⟨min i j, Nat.min_le_left _ _, Nat.min_le_right _ _, by omega⟩
  have e1 : (-1074 + (i : Int) - (-1074 + (p : Int))).toNat = i - p := by omega
  have e2 : (-1074 + (j : Int) - (-1074 + (p : Int))).toNat = j - p := by omega
  obtain ⟨T, hT⟩ : ∃ T, T = signed (sgn x) m (i - p) + signed (sgn y) n (j - p) := ⟨_, rfl⟩
  have hT2 : T * ((2 ^ p : Nat) : Int) = (S : Int) * (2048 * (U : Int)) + (units (rung y) : Int) := by
    rw [hT, signed_eq, signed_eq, Int.add_mul, ← sg_mul, ← sg_mul, Nat.mul_assoc, Nat.mul_assoc, ← Nat.pow_add, ← Nat.pow_add,
      show i - p + p = i from by omega, show j - p + p = j from by omega, vx, uy, sy]
    rfl
  have hpp : (0 : Int) < ((2 ^ p : Nat) : Int) := pow_pos_int p
  obtain ⟨Y, hY⟩ : ∃ Y, Y = units (rung y) := ⟨_, rfl⟩
  rw [← hY] at hT2 y1 y2
  obtain ⟨V, hV⟩ : ∃ V, V = S * U := ⟨_, rfl⟩
  have hT3 : T * ((2 ^ p : Nat) : Int) = ((2048 * V + Y : Nat) : Int) := by
    rw [hT2, hV, Int.mul_left_comm, ← Int.natCast_mul]; omega
  have hTn : T = (T.natAbs : Int) := by
    by_cases h : T < 0
    · exfalso
      have := Int.mul_neg_of_neg_of_pos h hpp
      omega
    · omega
  have hmag : T.natAbs * 2 ^ p = 2048 * V + Y := by
    have h := hT3
    rw [hTn, ← Int.natCast_mul] at h
    exact Int.ofNat.inj h
  have hT0 : ¬ T < 0 := by omega
  have hsign : (if T = 0 then sgn x && sgn y else decide (T < 0)) = false := by
    by_cases c : T = 0
    · rw [if_pos c, sy, Bool.and_false]
    · rw [if_neg c]; exact decide_eq_false hT0
  obtain ⟨N, hN, b1, b2⟩ := near T.natAbs p (2048 * S + 1) (2048 * S + 2047) (by omega) (by omega) (by rw [hmag, Nat.add_mul, Nat.mul_assoc, ← hV]; omega) (by rw [hmag, Nat.add_mul, Nat.mul_assoc, ← hV]; omega)
  refine ⟨_, N, ?_, hN, b1, b2⟩
  show ((double.read x).sum (double.read y)).map double.write = _
  rw [rx, ry]
  simp only [Datum.sum, hp, e1, e2, ← hT, Option.map_some, hsign]
  rfl
end FloatKey
