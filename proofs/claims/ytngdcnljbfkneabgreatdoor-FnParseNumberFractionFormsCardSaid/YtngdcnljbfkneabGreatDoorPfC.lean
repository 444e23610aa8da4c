/- The decimal text of a whole number is read as that number. -/
import Derived.Test.YtngdcnljbfkneabGreatDoorPfB
import Derived.Test.YtngdcnljbfkneabGreatDoorRf1
import Derived.Test.YtngdcnljbfkneabGreatDoorRf2
import Derived.Test.YtngdcnljbfkneabGreatDoorRf5
namespace Go.Proofs.YtngdcnljbfkneabGreatDoor
open Go.RowKit Go.Dec Go.Lib

def bodyOf (u : Nat) : List Nat := (decDigits u).map (·.toNat)
theorem dec_len (u : Nat) : (decDigits u).length = nDigits u := decDigits_length u
theorem body_len (u : Nat) : (bodyOf u).length = nDigits u := by unfold bodyOf; rw [List.length_map, dec_len]
theorem body_get (u i : Nat) (h : i < nDigits u) : (bodyOf u).getD i 0 = 48 + u / 10 ^ (nDigits u - 1 - i) % 10 := by
  unfold bodyOf
  rw [List.getD_eq_getElem?_getD, List.getElem?_map, dec_get u i h, ← dg_nat]
  rfl
theorem body_at (u : Nat) (hu : 0 < u) (i : Nat) (h : i ≤ nDigits u) : rfAt (bodyOf u) i = ⟨u / 10 ^ (nDigits u - i), i, false, decide (0 < i), 0⟩ := by
  unfold rfAt bodyOf
  rw [← List.map_take]
  exact rf_digits u hu i h
theorem body_ok (u : Nat) (hu : 0 < u) (hb : u ≤ 9223372036854775808) : RfOk (bodyOf u) ∧ nDigits u ≤ 19 := by
  have h19 : (10 : Nat) ^ 19 = 10000000000000000000 := by decide
  have hn : nDigits u ≤ 19 := nd_le u 19 (by rw [h19]; omega) (by decide)
  refine ⟨fun j hj => Or.inr ?_, hn⟩
  rw [body_len] at hj
  rw [body_get u j hj, body_at u hu j (by omega)]
  have h1 : u / 10 ^ (nDigits u - 1 - j) % 10 < 10 := Nat.mod_lt _ (by decide)
  have h2 : u / 10 ^ (nDigits u - j) < 10 ^ j := by
    rw [Nat.div_lt_iff_lt_mul (Nat.pow_pos (by decide)), ← Nat.pow_add, show j + (nDigits u - j) = nDigits u by omega]
    exact lt_pow_nDigits u
  have h3 : (10 : Nat) ^ j ≤ 10 ^ 18 := Nat.pow_le_pow_right (by decide) (by omega)
  have h4 : (10 : Nat) ^ 18 = 1000000000000000000 := by decide
  refine ⟨by omega, by omega, ?_, ?_⟩
  · show j < 19; omega
  · show u / 10 ^ (nDigits u - j) < 1000000000000000000; omega
theorem body_end (u : Nat) (hu : 0 < u) : rfAt (bodyOf u) (bodyOf u).length = ⟨u, nDigits u, false, true, 0⟩ := by
  have hp := nDigits_pos u
  rw [body_len, body_at u hu _ (Nat.le_refl _), Nat.sub_self, Nat.pow_zero, Nat.div_one, decide_eq_true (show 0 < nDigits u from hp)]
theorem body_head (u : Nat) (hu : 0 < u) : (bodyOf u).getD 0 0 ≠ 48 := by
  have h := head_ne u hu
  rw [body_get u 0 (nDigits_pos u), Nat.sub_zero]
  omega
theorem list_nat (l : List UInt8) (i : Nat) : (l.getD i 0).toNat = (l.map (·.toNat)).getD i 0 := by
  rw [List.getD_eq_getElem?_getD, List.getD_eq_getElem?_getD, List.getElem?_map]
  cases l[i]? <;> rfl
theorem reads_pos (u : Nat) (hu : 0 < u) (hb : u ≤ 9223372036854775808) : Reads ⟨(decDigits u).toArray⟩ u false := by
  obtain ⟨hok, hn⟩ := body_ok u hu hb
  have hp := nDigits_pos u
  have hl : (bodyOf u).length = nDigits u := body_len u
  have hsz : (⟨(decDigits u).toArray⟩ : ByteArray).size = nDigits u := dec_len u
  have hst : Stands ⟨(decDigits u).toArray⟩ 0 (bodyOf u) := ⟨by rw [hl, hsz]; omega, fun j hj => by
    rw [Nat.zero_add]; exact list_nat _ _⟩
  have hg : (((⟨(decDigits u).toArray⟩ : ByteArray).data.toList.getD 0 0).toNat : Int) = ((bodyOf u).getD 0 0 : Nat) := congrArg _ (list_nat _ _)
  have hd := body_get u 0 hp
  have hm : u / 10 ^ (nDigits u - 1 - 0) % 10 < 10 := Nat.mod_lt _ (by decide)
  refine ⟨fun w => special_digit _ _ (by rw [hsz]; exact hp) (by rw [hsz]; omega) hg (by omega) (by omega) w, fun w => ?_⟩
  have h := rf_pnen ⟨(decDigits u).toArray⟩ (bodyOf u) (by rw [hsz, hl]; omega) hst hok (by omega) (by omega) (body_head u hu) u (nDigits u) false 0 (body_end u hu) (by omega) 0 (by simp) w
  exact h
theorem reads_neg (u : Nat) (hu : 0 < u) (hb : u ≤ 9223372036854775808) : Reads ⟨(45 :: decDigits u).toArray⟩ u true := by
  obtain ⟨hok, hn⟩ := body_ok u hu hb
  have hp := nDigits_pos u
  have hl : (bodyOf u).length = nDigits u := body_len u
  have hsz : (⟨(45 :: decDigits u).toArray⟩ : ByteArray).size = nDigits u + 1 := by show (45 :: decDigits u).length = _; rw [List.length_cons, dec_len]
  have hst : Stands ⟨(45 :: decDigits u).toArray⟩ 1 (bodyOf u) := ⟨by rw [hl, hsz]; omega, fun j hj => by
    rw [Nat.add_comm]
    show ((45 :: decDigits u).getD (j + 1) 0).toNat = _
    rw [List.getD_cons_succ]; exact list_nat _ _⟩
  have hg : (((⟨(45 :: decDigits u).toArray⟩ : ByteArray).data.toList.getD 1 0).toNat : Int) = ((bodyOf u).getD 0 0 : Nat) := by
    show (((45 :: decDigits u).getD (0 + 1) 0).toNat : Int) = _
    rw [List.getD_cons_succ]; exact congrArg _ (list_nat _ _)
  have hd := body_get u 0 hp
  have hm : u / 10 ^ (nDigits u - 1 - 0) % 10 < 10 := Nat.mod_lt _ (by decide)
  refine ⟨fun w => special_minus _ _ (by rw [hsz]; omega) (by rw [hsz]; omega) rfl hg (by omega) (by omega) w, fun w => ?_⟩
  have h := rf_mnen ⟨(45 :: decDigits u).toArray⟩ (bodyOf u) (by rw [hsz, hl]; omega) hst rfl hok (by omega) (by omega) (body_head u hu) u (nDigits u) false 0 (body_end u hu) (by omega) 0 (by simp) w
  exact h
theorem reads_zero : Reads ⟨#[48]⟩ 0 false := by
  refine ⟨fun w => special_digit ⟨#[48]⟩ 48 (by decide) (by decide) rfl (by decide) (by decide) w, fun w => ?_⟩
  have hz : ∀ j, j < [48].length → j = 0 := fun j hj => by rw [List.length_singleton] at hj; omega
  exact rf_pshn ⟨#[48]⟩ [48] rfl ⟨by decide, fun j hj => by rw [hz j hj]; rfl⟩ (fun j hj => by
      rw [hz j hj]
      exact Or.inr ⟨by decide, by decide, by decide, by decide⟩) (by decide) (by decide) rfl (by decide) 0 0 false (-1) (by rfl) rfl w
theorem nearest_eq (n : Int) : Ieee.double.nearest (decide (n < 0)) n.natAbs 0 = floatOfInt .f64 n := rfl
theorem num_itoa (n : Int) (h0 : -9223372036854775808 ≤ n) (h1 : n ≤ 9223372036854775807) (w : World) (hp : PfW w) :
    Calls Tryz.prog 18 #[.string ⟨(Lib.itoa n).toArray⟩] w fun e w' => e = .returned (.tuple #[.float .f64 (floatOfInt .f64 n), .nilIface]) ∧ Below w.heap.size w w' := by
  rw [← nearest_eq]
  rcases Int.lt_trichotomy n 0 with h | h | h
  · have e : Lib.itoa n = 45 :: decDigits n.natAbs := by unfold Lib.itoa; rw [if_pos h]
    rw [e, decide_eq_true h]
    exact num_whole _ _ _ (fun h => by omega) (by omega) (reads_neg n.natAbs (by omega) (by omega)) w hp
  · subst h
    have e : Lib.itoa 0 = [48] := by
      unfold Lib.itoa
      rw [if_neg (by decide), Lib.decDigits_eq, show (0 : Int).toNat = 0 from rfl, Lib.nDigits_small (by decide)]
      rfl
    rw [e]
    exact num_whole _ _ _ (fun _ => rfl) (by decide) reads_zero w hp
  · have e : Lib.itoa n = decDigits n.natAbs := by unfold Lib.itoa; rw [if_neg (by omega), show n.toNat = n.natAbs by omega]
    rw [e, decide_eq_false (by omega)]
    exact num_whole _ _ _ (fun h => by omega) (by omega) (reads_pos n.natAbs (by omega) (by omega)) w hp
end Go.Proofs.YtngdcnljbfkneabGreatDoor
