/- Plain law of decimal texts: the digits of a number, reading them, writing them from the end. No program in sight. -/
import Derived.Lib.ItoaMem
import Derived.Lib.ParseIntB
namespace Go.Dec
open Go.Lib

theorem pre_succ (u j : Nat) : u / 10 ^ j = u / 10 ^ (j + 1) * 10 + u / 10 ^ j % 10 := by
  rw [Nat.pow_succ, ← Nat.div_div_eq_div_mul]; omega
theorem pow_le : ∀ (u : Nat), 0 < u → 10 ^ (nDigits u - 1) ≤ u := by
  intro u
  induction u using Nat.strongRecOn with
  | ind u ih =>
    intro h
    by_cases c : u < 10
    · rw [nDigits_small c]; show 1 ≤ u; exact h
    · rw [nDigits_big c, Nat.add_sub_cancel]
      have := ih (u / 10) (by omega) (by omega)
      have e := nDigits_pos (u / 10)
      have e2 : 10 ^ nDigits (u / 10) = 10 ^ (nDigits (u / 10) - 1) * 10 := by rw [← Nat.pow_succ, Nat.succ_eq_add_one, Nat.sub_add_cancel e]
      omega
theorem nd_le (u k : Nat) (h : u < 10 ^ k) (hk : 0 < k) : nDigits u ≤ k := by
  rcases Nat.eq_zero_or_pos u with h0 | h0
  · subst h0; rw [nDigits_small (by decide)]; omega
  · have := pow_le u h0
    refine Nat.le_of_not_lt fun c => ?_
    have h2 : 10 ^ k ≤ 10 ^ (nDigits u - 1) := Nat.pow_le_pow_right (by decide) (by omega)
    omega
theorem dg_nat (u j : Nat) : (dg u j).toNat = 48 + u / 10 ^ j % 10 := by
  unfold dg
  rw [UInt8.toNat_ofNat']
  omega
theorem dec_get (u i : Nat) (h : i < nDigits u) : (decDigits u)[i]? = some (dg u (nDigits u - 1 - i)) := by
  rw [decDigits_eq]; simp [h]
theorem dec_drop (u i : Nat) (h : i < nDigits u) : (decDigits u).drop i = dg u (nDigits u - 1 - i) :: (decDigits u).drop (i + 1) := by
  have hl : i < (decDigits u).length := by rw [decDigits_length]; exact h
  rw [List.drop_eq_getElem_cons hl]
  congr 1
  have := dec_get u i h
  rw [List.getElem?_eq_getElem hl] at this
  exact Option.some.inj this
theorem head_ne (u : Nat) (h : 0 < u) : u / 10 ^ (nDigits u - 1) % 10 ≠ 0 := by
  have h1 := pow_le u h
  have h2 := lt_pow_nDigits u
  have e := nDigits_pos u
  have e2 : 10 ^ nDigits u = 10 ^ (nDigits u - 1) * 10 := by rw [← Nat.pow_succ, Nat.succ_eq_add_one, Nat.sub_add_cancel e]
  have h3 : u / 10 ^ (nDigits u - 1) < 10 := by
    rw [Nat.div_lt_iff_lt_mul (Nat.pow_pos (by decide)), Nat.mul_comm, ← e2]
    exact h2
  have h4 : 1 ≤ u / 10 ^ (nDigits u - 1) := by
    rw [Nat.le_div_iff_mul_le (Nat.pow_pos (by decide))]
    omega
  omega
theorem pre_zero (u : Nat) : u / 10 ^ nDigits u = 0 := Nat.div_eq_of_lt (lt_pow_nDigits u)

/-! ### ParseInt over such a text -/
theorem pu_digits (u : Nat) (hu : u ≤ 9223372036854775808) (rest : List UInt8) : ∀ (m i : Nat), i + m = nDigits u →
    parseUintM 18446744073709551615 (u / 10 ^ m) ((decDigits u).drop i ++ rest) = parseUintM 18446744073709551615 u rest
  | 0, i, h => by
    rw [List.drop_eq_nil_of_le (by rw [decDigits_length]; omega), Nat.pow_zero, Nat.div_one]; rfl
  | m + 1, i, h => by
    have hs := pre_succ u m
    have hle : u / 10 ^ m ≤ u := Nat.div_le_self _ _
    have hd := dg_nat u m
    rw [dec_drop u i (by omega), show nDigits u - 1 - i = m from by omega, List.cons_append, parseUintM, hd]
    rw [if_pos (by omega), if_neg (by omega), if_neg (by omega)]
    have e : u / 10 ^ (m + 1) * 10 + (48 + u / 10 ^ m % 10 - 48) = u / 10 ^ m := by omega
    rw [e]
    exact pu_digits u hu rest m (i + 1) (by omega)
theorem pu_all (u : Nat) (hu : u ≤ 9223372036854775808) (rest : List UInt8) : parseUintB 64 (decDigits u ++ rest) = parseUintM 18446744073709551615 u rest := by
  have h := pu_digits u hu rest (nDigits u) 0 (by omega)
  rw [pre_zero, List.drop_zero] at h
  unfold parseUintB
  rw [if_neg]
  · exact h
  · intro e
    have := congrArg List.length e
    rw [List.length_append, decDigits_length] at this
    have := nDigits_pos u
    simp at *
    omega
theorem head_digit (u : Nat) : ∃ c r, decDigits u = c :: r ∧ 48 ≤ c.toNat ∧ c.toNat ≤ 57 := by
  have e := dec_drop u 0 (nDigits_pos u)
  rw [List.drop_zero] at e
  have := dg_nat u (nDigits u - 1 - 0)
  exact ⟨_, _, e, by omega, by omega⟩
theorem parse_text (n : Int) (h0 : -9223372036854775808 ≤ n) (h1 : n ≤ 9223372036854775807) (rest : List UInt8) :
    parseIntB 64 (itoa n ++ rest) = match parseUintM 18446744073709551615 n.natAbs rest with
      | .syntax => .syntax
      | .range => .range
      | .ok u => if ¬ n < 0 ∧ 9223372036854775808 ≤ u then .range else if n < 0 ∧ 9223372036854775808 < u then .range else .ok (if n < 0 then -(u : Int) else u) := by
  unfold itoa
  by_cases c : n < 0
  · rw [if_pos c, List.cons_append, parseIntB]
    have e1 : ((45 : UInt8).toNat = 43 ∨ (45 : UInt8).toNat = 45) := Or.inr (by decide)
    have e2 : (45 : UInt8).toNat = 45 := by decide
    have e3 : (2 : Nat) ^ (64 - 1) = 9223372036854775808 := by decide
    simp only [if_pos e1, pu_all n.natAbs (by omega) rest]
    simp only [e2, e3, c, not_true, true_and, false_and, if_false, if_true]
    generalize parseUintM 18446744073709551615 n.natAbs rest = x
    cases x <;> rfl
  · rw [if_neg c]
    obtain ⟨d, r, hd, d0, d1⟩ := head_digit n.toNat
    have hp := pu_all n.toNat (by omega) rest
    rw [hd, List.cons_append] at hp ⊢
    rw [parseIntB]
    have e1 : ¬ (d.toNat = 43 ∨ d.toNat = 45) := by omega
    have e2 : ¬ d.toNat = 45 := by omega
    have e3 : (2 : Nat) ^ (64 - 1) = 9223372036854775808 := by decide
    have e4 : n.toNat = n.natAbs := by omega
    rw [e4] at hp
    simp only [if_neg e1, hp]
    simp only [e2, e3, c, not_false_eq_true, true_and, false_and, if_false]
    generalize parseUintM 18446744073709551615 n.natAbs rest = x
    cases x <;> rfl
theorem parse_whole (n : Int) (h0 : -9223372036854775808 ≤ n) (h1 : n ≤ 9223372036854775807) : parseIntB 64 (itoa n) = .ok n := by
  have h := parse_text n h0 h1 []
  rw [List.append_nil, parseUintM] at h
  rw [h]
  simp only
  rw [if_neg (by omega), if_neg (by omega)]
  congr 1
  split <;> omega
theorem parse_frac (n : Int) (h0 : -9223372036854775808 ≤ n) (h1 : n ≤ 9223372036854775807) (c : UInt8) (r : List UInt8) (hc : ¬ (48 ≤ c.toNat ∧ c.toNat ≤ 57)) : parseIntB 64 (itoa n ++ c :: r) = .syntax := by
  rw [parse_text n h0 h1, parseUintM, if_neg hc]

/-! ### Writing the digits from the end of a row of 24 -/
/-- What 'for u > 0 { i--; buf[i] = '0' + u%10; u /= 10 }' keeps: the places from i on hold the last digits of m, u is what is left. -/
structure Back (m i u : Nat) (d : Array UInt8) : Prop where
  size : d.size = 24
  le : i ≤ 24
  rest : u = m / 10 ^ (24 - i)
  more : i = 24 ∨ 10 ^ (23 - i) ≤ m
  done : ∀ t, i ≤ t → t < 24 → d[t]! = dg m (23 - t)
theorem Back.start (m : Nat) : Back m 24 m (Array.replicate 24 0) := ⟨by simp, Nat.le_refl _, by simp, Or.inl rfl, fun t h1 h2 => by omega⟩
theorem Back.low {m i u : Nat} {d : Array UInt8} (h : Back m i u d) (hu : 0 < u) (hm : m < 18446744073709551616) : 5 ≤ i := by
  refine Nat.le_of_not_lt fun c => ?_
  have e := h.rest
  have : m / 10 ^ (24 - i) = 0 := Nat.div_eq_of_lt (Nat.lt_of_lt_of_le hm (Nat.le_trans (by decide : 18446744073709551616 ≤ 10 ^ 20) (Nat.pow_le_pow_right (by decide) (by omega))))
  omega
theorem Back.step {m i u : Nat} {d : Array UInt8} (h : Back m i u d) (hu : 0 < u) (hi : 0 < i) : Back m (i - 1) (u / 10) (d.setIfInBounds (i - 1) (UInt8.ofNat (48 + u % 10))) := by
  have hle := h.le
  refine ⟨by simp [h.size], by omega, ?_, ?_, fun t h1 h2 => ?_⟩
  · rw [h.rest, Nat.div_div_eq_div_mul, ← Nat.pow_succ, show (24 - i).succ = 24 - (i - 1) from by omega]
  · right
    rw [show 23 - (i - 1) = 24 - i from by omega]
    have e := h.rest
    refine Nat.le_of_not_lt fun c => ?_
    rw [Nat.div_eq_of_lt c] at e
    omega
  · by_cases e : t = i - 1
    · rw [e, get_set_same _ _ _ (by rw [h.size]; omega)]
      unfold dg
      rw [h.rest, show 23 - (i - 1) = 24 - i from by omega]
    · rw [get_set_other _ _ _ _ e]
      exact h.done t (by omega) h2
/-- The end: nothing is left, a digit was written. -/
theorem Back.end {m i : Nat} {d : Array UInt8} (h : Back m i 0 d) (hm : 0 < m) : nDigits m = 24 - i ∧ ∀ j, j < nDigits m → d[i + j]! = dg m (nDigits m - 1 - j) := by
  have hle := h.le
  have e := h.rest
  have hi : i ≠ 24 := by
    intro c
    rw [c] at e
    simp at e
    omega
  have h1 : 10 ^ (23 - i) ≤ m := by rcases h.more with c | c; exact absurd c hi; exact c
  have h2 : m < 10 ^ (24 - i) := by
    refine Nat.lt_of_not_le fun c => ?_
    have := Nat.div_pos c (Nat.pow_pos (by decide) : 0 < 10 ^ (24 - i))
    omega
  have h3 := nDigits_unique (23 - i) m h1 (by rw [show 23 - i + 1 = 24 - i from by omega]; exact h2)
  refine ⟨by omega, fun j hj => ?_⟩
  rw [h.done (i + j) (by omega) (by omega)]
  congr 1
  omega
/-- .. so what stands from there on is the number's text. -/
theorem Back.text {m i : Nat} {d : Array UInt8} (h : Back m i 0 d) (hm : 0 < m) : d.toList.drop i = decDigits m := by
  obtain ⟨h1, h2⟩ := h.end hm
  have hle := h.le
  apply List.ext_getElem?
  intro j
  by_cases c : j < nDigits m
  · rw [dec_get m j c, List.getElem?_drop, Array.getElem?_toList, Array.getElem?_eq_getElem (by rw [h.size]; omega)]
    have := h2 j c
    rw [getElem!_pos d (i + j) (by rw [h.size]; omega)] at this
    rw [this]
  · rw [List.getElem?_eq_none (by simp [h.size]; omega), List.getElem?_eq_none (by rw [decDigits_length]; omega)]
/-! ### What a float's mantissa reader keeps -/
structure RF where
  mant : Nat
  nd : Nat
  dot : Bool
  dig : Bool
  dp : Int
def rfStep (r : RF) (c : Nat) : RF :=
  if c = 46 then { r with dot := true, dp := r.nd }
  else if c = 48 ∧ r.nd = 0 then { r with dig := true, dp := r.dp - 1 }
  else { r with dig := true, nd := r.nd + 1, mant := r.mant * 10 + (c - 48) }
def rf0 : RF := ⟨0, 0, false, false, 0⟩
/-- The reader's state behind the first i digits of u. -/
theorem rf_digits (u : Nat) (hu : 0 < u) : ∀ i, i ≤ nDigits u → (((decDigits u).take i).map (·.toNat)).foldl rfStep rf0 = ⟨u / 10 ^ (nDigits u - i), i, false, decide (0 < i), 0⟩
  | 0, _ => by
    rw [List.take_zero, List.map_nil, List.foldl_nil, Nat.sub_zero, pre_zero]; rfl
  | i + 1, h => by
    have ih := rf_digits u hu i (by omega)
    have hg := dec_get u i (by omega)
    have ht : (decDigits u).take (i + 1) = (decDigits u).take i ++ [dg u (nDigits u - 1 - i)] := by
      rw [List.take_add_one, hg]; rfl
    have hs := pre_succ u (nDigits u - 1 - i)
    have hd := dg_nat u (nDigits u - 1 - i)
    rw [ht, List.map_append, List.foldl_append, ih, List.map_cons, List.map_nil, List.foldl_cons, List.foldl_nil, hd]
    have e1 : nDigits u - 1 - i + 1 = nDigits u - i := by omega
    have e2 : nDigits u - (i + 1) = nDigits u - 1 - i := by omega
    rw [e1] at hs
    unfold rfStep
    rw [if_neg (by omega), if_neg]
    · simp only [RF.mk.injEq, Nat.zero_lt_succ, decide_true, and_true]
      rw [e2]; omega
    · rintro ⟨h1, h2⟩
      have h3 : i = 0 := h2
      subst h3
      have := head_ne u hu
      rw [Nat.sub_zero] at h1
      omega
theorem rf_all (u : Nat) (hu : 0 < u) : ((decDigits u).map (·.toNat)).foldl rfStep rf0 = ⟨u, nDigits u, false, true, 0⟩ := by
  have h := rf_digits u hu (nDigits u) (Nat.le_refl _)
  rw [List.take_of_length_le (by rw [decDigits_length]; exact Nat.le_refl _), Nat.sub_self, Nat.pow_zero, Nat.div_one] at h
  have e := nDigits_pos u
  rw [h]
  simp only [RF.mk.injEq, true_and, and_true, decide_eq_true_eq]
  omega
end Go.Dec
