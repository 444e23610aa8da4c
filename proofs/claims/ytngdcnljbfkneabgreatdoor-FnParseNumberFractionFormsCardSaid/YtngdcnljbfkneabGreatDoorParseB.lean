/- Contracts: pack64 and parseFloat64 of strconv's float parsing. -/
import Derived.Test.YtngdcnljbfkneabGreatDoorParseA
namespace Go.Proofs.YtngdcnljbfkneabGreatDoor
open Go.RowKit

theorem pow63 : (9223372036854775808 : Nat) = 2 ^ 63 := by decide
def sgnW (s : Bool) : Nat := if s then 9223372036854775808 else 0
theorem pack_and (s : Bool) (f : Nat) (hf : f < 4503599627370496) : (sgnW s + 4503599627370496 + f) &&& 4503599627370496 = 4503599627370496 := by
  have e1 : ((sgnW s + 4503599627370496 + f) &&& 4503599627370496) / 4503599627370496 = (sgnW s + 4503599627370496 + f) / 4503599627370496 &&& 4503599627370496 / 4503599627370496 := Nat.and_div_two_pow (n := 52)
  have e2 : ((sgnW s + 4503599627370496 + f) &&& 4503599627370496) % 4503599627370496 = (sgnW s + 4503599627370496 + f) % 4503599627370496 &&& 4503599627370496 % 4503599627370496 := Nat.and_mod_two_pow (n := 52)
  have e3 : (4503599627370496 : Nat) % 4503599627370496 = 0 := by decide
  have e5 : (4503599627370496 : Nat) / 4503599627370496 = 1 := by decide
  rw [e3, Nat.and_zero] at e2
  rw [e5] at e1
  cases s
  · have e4 : (sgnW false + 4503599627370496 + f) / 4503599627370496 = 1 := by unfold sgnW; simp; omega
    rw [e4, show 1 &&& 1 = 1 from rfl] at e1
    omega
  · have e4 : (sgnW true + 4503599627370496 + f) / 4503599627370496 = 2049 := by unfold sgnW; simp; omega
    rw [e4, show 2049 &&& 1 = 1 from rfl] at e1
    omega
theorem pack_andNot (s : Bool) (f : Nat) (hf : f < 4503599627370496) : (sgnW s + 4503599627370496 + f) &&& (18446744073709551615 - 4503599627370496) = sgnW s + f := by
  have e0 : (18446744073709551615 - 4503599627370496 : Nat) = 18442240474082181119 := by decide
  rw [e0]
  have e1 : ((sgnW s + 4503599627370496 + f) &&& 18442240474082181119) / 4503599627370496 = (sgnW s + 4503599627370496 + f) / 4503599627370496 &&& 18442240474082181119 / 4503599627370496 := Nat.and_div_two_pow (n := 52)
  have e2 : ((sgnW s + 4503599627370496 + f) &&& 18442240474082181119) % 4503599627370496 = (sgnW s + 4503599627370496 + f) % 4503599627370496 &&& 18442240474082181119 % 4503599627370496 := Nat.and_mod_two_pow (n := 52)
  have e3 : (18442240474082181119 : Nat) % 4503599627370496 = 2 ^ 52 - 1 := by decide
  have e5 : (18442240474082181119 : Nat) / 4503599627370496 = 4094 := by decide
  rw [e3, Nat.and_two_pow_sub_one_eq_mod, FloatKey.two52] at e2
  rw [e5] at e1
  cases s
  · have e4 : (sgnW false + 4503599627370496 + f) / 4503599627370496 = 1 := by unfold sgnW; simp; omega
    rw [e4, show 1 &&& 4094 = 0 from rfl] at e1
    have e6 : sgnW false = 0 := rfl
    omega
  · have e4 : (sgnW true + 4503599627370496 + f) / 4503599627370496 = 2049 := by unfold sgnW; simp; omega
    rw [e4, show 2049 &&& 4094 = 2048 from rfl] at e1
    have e6 : sgnW true = 9223372036854775808 := rfl
    omega
theorem pack_or (s : Bool) (f E : Nat) (hf : f < 4503599627370496) (hE : E < 2048) : (sgnW s + f) ||| (E * 4503599627370496) = sgnW s + f + E * 4503599627370496 := by
  have e1 : ((sgnW s + f) ||| (E * 4503599627370496)) / 4503599627370496 = (sgnW s + f) / 4503599627370496 ||| (E * 4503599627370496) / 4503599627370496 := Nat.or_div_two_pow (n := 52)
  have e2 : ((sgnW s + f) ||| (E * 4503599627370496)) % 4503599627370496 = (sgnW s + f) % 4503599627370496 ||| (E * 4503599627370496) % 4503599627370496 := Nat.or_mod_two_pow (n := 52)
  rw [Nat.mul_mod_left, Nat.or_zero] at e2
  rw [Nat.mul_div_cancel _ (by decide)] at e1
  cases s
  · have e4 : (sgnW false + f) / 4503599627370496 = 0 := by unfold sgnW; simp; omega
    rw [e4, Nat.zero_or] at e1
    have e6 : sgnW false = 0 := rfl
    omega
  · have e4 : (sgnW true + f) / 4503599627370496 = 2048 := by unfold sgnW; simp; omega
    have e7 : 2048 ||| E = 2048 + E := by
      have := Nat.two_pow_add_eq_or_of_lt (i := 11) hE 1
      simpa using this.symm
    rw [e4, e7] at e1
    have e6 : sgnW true = 9223372036854775808 := rfl
    omega
theorem sgnW_le (s : Bool) : sgnW s ≤ 9223372036854775808 := by cases s <;> decide

set_option maxHeartbeats 1000000 in
theorem pack64_any (s : Bool) (f E : Nat) (e : Int) (hf : f < 4503599627370496) (hE : 1075 + e = (E : Int)) (hE2 : E < 2047) (w : World) :
    Calls Tryz.prog 147 #[.int .u64 ((sgnW s + 4503599627370496 + f : Nat) : Int), .int .i64 e] w fun x w' => x = .returned (.tuple #[.float .f64 (sgnW s + f + E * 4503599627370496), .nilIface]) ∧ w = w' := by
  have hs := sgnW_le s
  obtain ⟨m, hm⟩ : ∃ m, m = sgnW s + 4503599627370496 + f := ⟨_, rfl⟩
  obtain ⟨m2, hm2⟩ : ∃ m2, m2 = sgnW s + f := ⟨_, rfl⟩
  have h1 : bits .and .u64 (m : Int) 4503599627370496 = 4503599627370496 := by
    have h := u64_and_nat m 4503599627370496 (by omega) (by decide)
    rw [hm, pack_and s f hf] at h
    rw [hm]; exact h
  have h2 : bits .andNot .u64 (m : Int) 4503599627370496 = (m2 : Int) := by
    have h := u64_andNot_nat m 4503599627370496 (by omega) (by decide)
    rw [hm, pack_andNot s f hf] at h
    rw [hm, hm2]; exact h
  have h3 : bits .or .u64 (m2 : Int) ((E : Int) * 4503599627370496) = ((m2 + E * 4503599627370496 : Nat) : Int) := by
    have h := u64_or_nat m2 (E * 4503599627370496) (by omega) (by omega)
    rw [hm2, pack_or s f E hf (by omega)] at h
    rw [hm2]
    rw [Int.natCast_mul] at h
    exact h
  have h4 : decide (972 ≤ e) = false := by simp; omega
  have hr : m2 + E * 4503599627370496 = sgnW s + f + E * 4503599627370496 := by rw [hm2]
  rw [← hm, ← hr]
  have H := Lib.hid hm
  have H2 := Lib.hid hm2
  clear hm hm2 hr
  go_enter Tryz.func147, Tryz.ntmps147
  go_wp2
  go_ret2
  exact ⟨rfl, rfl⟩

theorem len64_named (d B : Nat) (h : d < 18446744073709551616) (hB : Hid (Lib.bitLen d = B)) (w : World) : Calls Tryz.prog 78 #[.int .u64 d] w fun e w' => e = .returned (.int .i64 (B : Int)) ∧ w = w' := by
  refine (len64_any d w (by omega) (by omega)).mono ?_
  rintro e w' ⟨rfl, rfl⟩
  exact ⟨by rw [← hB.out]; rfl, rfl⟩
theorem round_named (V m : Nat) (hV : V < 18446744073709551614) (hm : Hid ((V + 1 + V / 4 % 2) / 4 = m)) (w : World) : Calls Tryz.prog 144 #[.int .u64 V] w fun e w' => e = .returned (.int .u64 (m : Int)) ∧ w = w' := by
  rw [← hm.out]; exact round_any V hV w
theorem or_sign (s : Bool) (f : Nat) (hf : f < 4503599627370496) : bits .or .u64 (sgnW s : Int) ((4503599627370496 + f : Nat) : Int) = ((sgnW s + 4503599627370496 + f : Nat) : Int) := by
  have h := u64_or_nat (sgnW s) (4503599627370496 + f) (by have := sgnW_le s; omega) (by omega)
  have e : sgnW s ||| (4503599627370496 + f) = sgnW s + 4503599627370496 + f := by
    cases s
    · have := Nat.zero_or (4503599627370496 + f)
      show 0 ||| (4503599627370496 + f) = 0 + 4503599627370496 + f
      omega
    · have := Nat.two_pow_add_eq_or_of_lt (i := 63) (b := 4503599627370496 + f) (by omega) 1
      have e2 : 2 ^ 63 * 1 = sgnW true := by decide
      rw [e2] at this
      omega
  rw [e] at h
  exact h
/-- What the scaled and unrounded value U becomes: V is rounded to the significand, E is the exponent's field. -/
def Packs (U B V E : Nat) : Prop := (U < 36028797018963966 ∧ V = U ∧ E = B + 1022) ∨ (36028797018963966 ≤ U ∧ V = U / 2 ||| U % 2 ∧ E = B + 1023)
set_option maxHeartbeats 2000000 in
theorem parse_0 (d B c X hi lo U V E f : Nat) (s : Bool) (hd : d < 18446744073709551616) (hB : Hid (Lib.bitLen d = B)) (hB1 : 53 ≤ B) (hB2 : B ≤ 64) (hc : 64 - (B : Int) = c)
    (hX : IntKind.u64.wrap ((d : Int) * 2 ^ c) = (X : Int)) (hU : U < 72057594037927936)
    (hus : ∀ (b : Nat) (w : World), w.cell? ⟨b, 0, none⟩ = some (.int .u64 (hi : Int)) → w.cell? ⟨b, 1, none⟩ = some (.int .u64 (lo : Int)) → w.cell? ⟨b, 2, none⟩ = some (.int .i64 8) →
      Calls Tryz.prog 140 #[.int .u64 X, .pointer (some ⟨b, 0, none⟩)] w fun e w' => e = .returned (.int .u64 (U : Int)) ∧ ∃ n, w' = w.drewN n)
    (hV : Packs U B V (E + 0)) (hm : Hid ((V + 1 + V / 4 % 2) / 4 = 4503599627370496 + f)) (hf : f < 4503599627370496) (hE : E < 2047) (w : World)
    (t0 : w.cell? ⟨19, 696, none⟩ = some (.int .u64 (hi : Int))) (t1 : w.cell? ⟨19, 697, none⟩ = some (.int .u64 (lo : Int))) (hw : 19 < w.heap.size) :
    Calls Tryz.prog 104 #[.int .u64 d, .int .i64 0, .int .u64 (sgnW s)] w fun e w' => e = .returned (.tuple #[.float .f64 (sgnW s + f + E * 4503599627370496), .nilIface]) ∧ Below w.heap.size w w' := by
  have a1 := and1 U (by omega)
  have os := or_sign s f hf
  obtain ⟨m, hm'⟩ : ∃ m, m = 4503599627370496 + f := ⟨_, rfl⟩
  obtain ⟨mm, hmm⟩ : ∃ mm, mm = sgnW s + 4503599627370496 + f := ⟨_, rfl⟩
  rw [← hm'] at hm
  rw [← hm', ← hmm] at os
  have pk : ∀ (e : Int) (w : World), 1075 + e = (E : Int) → Calls Tryz.prog 147 #[.int .u64 (mm : Int), .int .i64 e] w fun x w' => x = .returned (.tuple #[.float .f64 (sgnW s + f + E * 4503599627370496), .nilIface]) ∧ w = w' := by
    intro e w he
    rw [hmm]; exact pack64_any s f E e hf he hE w
  have h1 := Lib.hid hm'
  have h2 := Lib.hid hmm
  have hus' := Lib.hid hus
  have pk' := Lib.hid pk
  clear hm' hmm hus pk hf
  have e1 : min 1074 (53 - (B : Int)) = 53 - (B : Int) := by omega
  have e2 : 53 - (B : Int) - (c : Int) = -11 := by omega
  rcases hV with ⟨q1, q2, q3⟩ | ⟨q1, q2, q3⟩
  · subst q2
    have t2 : decide (36028797018963966 ≤ (V : Int)) = false := by simp; omega
    have o1 : bits .or .u64 (V : Int) ((V : Int) % 2) = (V : Int) := by
      have h := u64_or_nat V (V % 2) (by omega) (by omega)
      have e : V ||| V % 2 = V := by
        apply Nat.eq_of_testBit_eq
        intro i
        rw [Nat.testBit_or]
        cases i with
        | zero => simp [Nat.testBit_zero]
        | succ i => simp [Nat.testBit_succ, show V % 2 / 2 = 0 from by omega]
      rw [e, Int.natCast_emod] at h
      exact h
    have hV2 : V < 18446744073709551614 := by omega
    have hV3 := Lib.hid hV2
    clear hV2
    have q4 := Lib.hid q3
    clear q3
    go_enter Tryz.func104, Tryz.ntmps104
    go_wp2_with (first | (go_at_call 78; refine (len64_named d B hd hB _).mono ?_; rintro e w' ⟨rfl, rfl⟩) | (go_at_call 138; refine (log2Pow10_0 _).mono ?_; rintro e w' ⟨rfl, rfl⟩) | (go_at_call 139; go_in))
    refine (hus'.out _ _ (by go_cell) (by go_cell) (by go_cell)).mono ?_
    rintro e w' ⟨rfl, nq, rfl⟩
    go_wp2_with (first | (go_at_call 142; refine (unmin53 _).mono ?_; rintro e w' ⟨rfl, rfl⟩) | (go_at_call 141; refine (b2i _ _).mono ?_; rintro e w' ⟨rfl, rfl⟩) | (go_at_call 144; refine (round_named _ m hV3.out hm _).mono ?_; rintro e w' ⟨rfl, rfl⟩) | (go_at_call 147; refine (pk'.out _ _ (by have := q4.out; omega)).mono ?_; rintro e w' ⟨rfl, rfl⟩))
    go_ret2
    exact ⟨rfl, below_drewN ((Below.refl _ _).alloc (Nat.le_refl _) _) _⟩
  · have t2 : decide (36028797018963966 ≤ (U : Int)) = true := by simp; omega
    have hV2 : V < 18446744073709551614 := by
      have : U / 2 ||| U % 2 < 2 ^ 56 := Nat.or_lt_two_pow (by omega) (by omega)
      omega
    have o1 : bits .or .u64 ((U : Int) / 2) ((U : Int) % 2) = (V : Int) := by
      have h := u64_or_nat (U / 2) (U % 2) (by omega) (by omega)
      rw [← q2, Int.natCast_ediv, Int.natCast_emod] at h
      exact h
    have hV3 := Lib.hid hV2
    clear hV2
    have q4 := Lib.hid q3
    clear q3 q2
    go_enter Tryz.func104, Tryz.ntmps104
    go_wp2_with (first | (go_at_call 78; refine (len64_named d B hd hB _).mono ?_; rintro e w' ⟨rfl, rfl⟩) | (go_at_call 138; refine (log2Pow10_0 _).mono ?_; rintro e w' ⟨rfl, rfl⟩) | (go_at_call 139; go_in))
    refine (hus'.out _ _ (by go_cell) (by go_cell) (by go_cell)).mono ?_
    rintro e w' ⟨rfl, nq, rfl⟩
    go_wp2_with (first | (go_at_call 142; refine (unmin53 _).mono ?_; rintro e w' ⟨rfl, rfl⟩) | (go_at_call 141; refine (b2i _ _).mono ?_; rintro e w' ⟨rfl, rfl⟩) | (go_at_call 144; refine (round_named _ m hV3.out hm _).mono ?_; rintro e w' ⟨rfl, rfl⟩) | (go_at_call 147; refine (pk'.out _ _ (by have := q4.out; omega)).mono ?_; rintro e w' ⟨rfl, rfl⟩))
    go_ret2
    exact ⟨rfl, below_drewN ((Below.refl _ _).alloc (Nat.le_refl _) _) _⟩
set_option maxHeartbeats 2000000 in
theorem parse_1 (d B c X hi lo U V E f : Nat) (s : Bool) (hd : d < 18446744073709551616) (hB : Hid (Lib.bitLen d = B)) (hB1 : 53 ≤ B) (hB2 : B ≤ 64) (hc : 64 - (B : Int) = c)
    (hX : IntKind.u64.wrap ((d : Int) * 2 ^ c) = (X : Int)) (hU : U < 72057594037927936)
    (hus : ∀ (b : Nat) (w : World), w.cell? ⟨b, 0, none⟩ = some (.int .u64 (hi : Int)) → w.cell? ⟨b, 1, none⟩ = some (.int .u64 (lo : Int)) → w.cell? ⟨b, 2, none⟩ = some (.int .i64 8) →
      Calls Tryz.prog 140 #[.int .u64 X, .pointer (some ⟨b, 0, none⟩)] w fun e w' => e = .returned (.int .u64 (U : Int)) ∧ ∃ n, w' = w.drewN n)
    (hV : Packs U B V (E + 4)) (hm : Hid ((V + 1 + V / 4 % 2) / 4 = 4503599627370496 + f)) (hf : f < 4503599627370496) (hE : E < 2047) (w : World)
    (t0 : w.cell? ⟨19, 694, none⟩ = some (.int .u64 (hi : Int))) (t1 : w.cell? ⟨19, 695, none⟩ = some (.int .u64 (lo : Int))) (hw : 19 < w.heap.size) :
    Calls Tryz.prog 104 #[.int .u64 d, .int .i64 (-1), .int .u64 (sgnW s)] w fun e w' => e = .returned (.tuple #[.float .f64 (sgnW s + f + E * 4503599627370496), .nilIface]) ∧ Below w.heap.size w w' := by
  have a1 := and1 U (by omega)
  have os := or_sign s f hf
  obtain ⟨m, hm'⟩ : ∃ m, m = 4503599627370496 + f := ⟨_, rfl⟩
  obtain ⟨mm, hmm⟩ : ∃ mm, mm = sgnW s + 4503599627370496 + f := ⟨_, rfl⟩
  rw [← hm'] at hm
  rw [← hm', ← hmm] at os
  have pk : ∀ (e : Int) (w : World), 1075 + e = (E : Int) → Calls Tryz.prog 147 #[.int .u64 (mm : Int), .int .i64 e] w fun x w' => x = .returned (.tuple #[.float .f64 (sgnW s + f + E * 4503599627370496), .nilIface]) ∧ w = w' := by
    intro e w he
    rw [hmm]; exact pack64_any s f E e hf he hE w
  have h1 := Lib.hid hm'
  have h2 := Lib.hid hmm
  have hus' := Lib.hid hus
  have pk' := Lib.hid pk
  clear hm' hmm hus pk hf
  have e1 : min 1074 (53 - (B : Int) + 4) = 57 - (B : Int) := by omega
  have e2 : 57 - (B : Int) - (c : Int) = -7 := by omega
  rcases hV with ⟨q1, q2, q3⟩ | ⟨q1, q2, q3⟩
  · subst q2
    have t2 : decide (36028797018963966 ≤ (V : Int)) = false := by simp; omega
    have o1 : bits .or .u64 (V : Int) ((V : Int) % 2) = (V : Int) := by
      have h := u64_or_nat V (V % 2) (by omega) (by omega)
      have e : V ||| V % 2 = V := by
        apply Nat.eq_of_testBit_eq
        intro i
        rw [Nat.testBit_or]
        cases i with
        | zero => simp [Nat.testBit_zero]
        | succ i => simp [Nat.testBit_succ, show V % 2 / 2 = 0 from by omega]
      rw [e, Int.natCast_emod] at h
      exact h
    have hV2 : V < 18446744073709551614 := by omega
    have hV3 := Lib.hid hV2
    clear hV2
    have q4 := Lib.hid q3
    clear q3
    go_enter Tryz.func104, Tryz.ntmps104
    go_wp2_with (first | (go_at_call 78; refine (len64_named d B hd hB _).mono ?_; rintro e w' ⟨rfl, rfl⟩) | (go_at_call 138; refine (log2Pow10_1 _).mono ?_; rintro e w' ⟨rfl, rfl⟩) | (go_at_call 139; go_in))
    refine (hus'.out _ _ (by go_cell) (by go_cell) (by go_cell)).mono ?_
    rintro e w' ⟨rfl, nq, rfl⟩
    go_wp2_with (first | (go_at_call 142; refine (unmin53 _).mono ?_; rintro e w' ⟨rfl, rfl⟩) | (go_at_call 141; refine (b2i _ _).mono ?_; rintro e w' ⟨rfl, rfl⟩) | (go_at_call 144; refine (round_named _ m hV3.out hm _).mono ?_; rintro e w' ⟨rfl, rfl⟩) | (go_at_call 147; refine (pk'.out _ _ (by have := q4.out; omega)).mono ?_; rintro e w' ⟨rfl, rfl⟩))
    go_ret2
    exact ⟨rfl, below_drewN ((Below.refl _ _).alloc (Nat.le_refl _) _) _⟩
  · have t2 : decide (36028797018963966 ≤ (U : Int)) = true := by simp; omega
    have hV2 : V < 18446744073709551614 := by
      have : U / 2 ||| U % 2 < 2 ^ 56 := Nat.or_lt_two_pow (by omega) (by omega)
      omega
    have o1 : bits .or .u64 ((U : Int) / 2) ((U : Int) % 2) = (V : Int) := by
      have h := u64_or_nat (U / 2) (U % 2) (by omega) (by omega)
      rw [← q2, Int.natCast_ediv, Int.natCast_emod] at h
      exact h
    have hV3 := Lib.hid hV2
    clear hV2
    have q4 := Lib.hid q3
    clear q3 q2
    go_enter Tryz.func104, Tryz.ntmps104
    go_wp2_with (first | (go_at_call 78; refine (len64_named d B hd hB _).mono ?_; rintro e w' ⟨rfl, rfl⟩) | (go_at_call 138; refine (log2Pow10_1 _).mono ?_; rintro e w' ⟨rfl, rfl⟩) | (go_at_call 139; go_in))
    refine (hus'.out _ _ (by go_cell) (by go_cell) (by go_cell)).mono ?_
    rintro e w' ⟨rfl, nq, rfl⟩
    go_wp2_with (first | (go_at_call 142; refine (unmin53 _).mono ?_; rintro e w' ⟨rfl, rfl⟩) | (go_at_call 141; refine (b2i _ _).mono ?_; rintro e w' ⟨rfl, rfl⟩) | (go_at_call 144; refine (round_named _ m hV3.out hm _).mono ?_; rintro e w' ⟨rfl, rfl⟩) | (go_at_call 147; refine (pk'.out _ _ (by have := q4.out; omega)).mono ?_; rintro e w' ⟨rfl, rfl⟩))
    go_ret2
    exact ⟨rfl, below_drewN ((Below.refl _ _).alloc (Nat.le_refl _) _) _⟩
set_option maxHeartbeats 2000000 in
theorem parse_3 (d B c X hi lo U V E f : Nat) (s : Bool) (hd : d < 18446744073709551616) (hB : Hid (Lib.bitLen d = B)) (hB1 : 53 ≤ B) (hB2 : B ≤ 64) (hc : 64 - (B : Int) = c)
    (hX : IntKind.u64.wrap ((d : Int) * 2 ^ c) = (X : Int)) (hU : U < 72057594037927936)
    (hus : ∀ (b : Nat) (w : World), w.cell? ⟨b, 0, none⟩ = some (.int .u64 (hi : Int)) → w.cell? ⟨b, 1, none⟩ = some (.int .u64 (lo : Int)) → w.cell? ⟨b, 2, none⟩ = some (.int .i64 8) →
      Calls Tryz.prog 140 #[.int .u64 X, .pointer (some ⟨b, 0, none⟩)] w fun e w' => e = .returned (.int .u64 (U : Int)) ∧ ∃ n, w' = w.drewN n)
    (hV : Packs U B V (E + 10)) (hm : Hid ((V + 1 + V / 4 % 2) / 4 = 4503599627370496 + f)) (hf : f < 4503599627370496) (hE : E < 2047) (w : World)
    (t0 : w.cell? ⟨19, 690, none⟩ = some (.int .u64 (hi : Int))) (t1 : w.cell? ⟨19, 691, none⟩ = some (.int .u64 (lo : Int))) (hw : 19 < w.heap.size) :
    Calls Tryz.prog 104 #[.int .u64 d, .int .i64 (-3), .int .u64 (sgnW s)] w fun e w' => e = .returned (.tuple #[.float .f64 (sgnW s + f + E * 4503599627370496), .nilIface]) ∧ Below w.heap.size w w' := by
  have a1 := and1 U (by omega)
  have os := or_sign s f hf
  obtain ⟨m, hm'⟩ : ∃ m, m = 4503599627370496 + f := ⟨_, rfl⟩
  obtain ⟨mm, hmm⟩ : ∃ mm, mm = sgnW s + 4503599627370496 + f := ⟨_, rfl⟩
  rw [← hm'] at hm
  rw [← hm', ← hmm] at os
  have pk : ∀ (e : Int) (w : World), 1075 + e = (E : Int) → Calls Tryz.prog 147 #[.int .u64 (mm : Int), .int .i64 e] w fun x w' => x = .returned (.tuple #[.float .f64 (sgnW s + f + E * 4503599627370496), .nilIface]) ∧ w = w' := by
    intro e w he
    rw [hmm]; exact pack64_any s f E e hf he hE w
  have h1 := Lib.hid hm'
  have h2 := Lib.hid hmm
  have hus' := Lib.hid hus
  have pk' := Lib.hid pk
  clear hm' hmm hus pk hf
  have e1 : min 1074 (53 - (B : Int) + 10) = 63 - (B : Int) := by omega
  have e2 : 63 - (B : Int) - (c : Int) = -1 := by omega
  rcases hV with ⟨q1, q2, q3⟩ | ⟨q1, q2, q3⟩
  · subst q2
    have t2 : decide (36028797018963966 ≤ (V : Int)) = false := by simp; omega
    have o1 : bits .or .u64 (V : Int) ((V : Int) % 2) = (V : Int) := by
      have h := u64_or_nat V (V % 2) (by omega) (by omega)
      have e : V ||| V % 2 = V := by
        apply Nat.eq_of_testBit_eq
        intro i
        rw [Nat.testBit_or]
        cases i with
        | zero => simp [Nat.testBit_zero]
        | succ i => simp [Nat.testBit_succ, show V % 2 / 2 = 0 from by omega]
      rw [e, Int.natCast_emod] at h
      exact h
    have hV2 : V < 18446744073709551614 := by omega
    have hV3 := Lib.hid hV2
    clear hV2
    have q4 := Lib.hid q3
    clear q3
    go_enter Tryz.func104, Tryz.ntmps104
    go_wp2_with (first | (go_at_call 78; refine (len64_named d B hd hB _).mono ?_; rintro e w' ⟨rfl, rfl⟩) | (go_at_call 138; refine (log2Pow10_3 _).mono ?_; rintro e w' ⟨rfl, rfl⟩) | (go_at_call 139; go_in))
    refine (hus'.out _ _ (by go_cell) (by go_cell) (by go_cell)).mono ?_
    rintro e w' ⟨rfl, nq, rfl⟩
    go_wp2_with (first | (go_at_call 142; refine (unmin53 _).mono ?_; rintro e w' ⟨rfl, rfl⟩) | (go_at_call 141; refine (b2i _ _).mono ?_; rintro e w' ⟨rfl, rfl⟩) | (go_at_call 144; refine (round_named _ m hV3.out hm _).mono ?_; rintro e w' ⟨rfl, rfl⟩) | (go_at_call 147; refine (pk'.out _ _ (by have := q4.out; omega)).mono ?_; rintro e w' ⟨rfl, rfl⟩))
    go_ret2
    exact ⟨rfl, below_drewN ((Below.refl _ _).alloc (Nat.le_refl _) _) _⟩
  · have t2 : decide (36028797018963966 ≤ (U : Int)) = true := by simp; omega
    have hV2 : V < 18446744073709551614 := by
      have : U / 2 ||| U % 2 < 2 ^ 56 := Nat.or_lt_two_pow (by omega) (by omega)
      omega
    have o1 : bits .or .u64 ((U : Int) / 2) ((U : Int) % 2) = (V : Int) := by
      have h := u64_or_nat (U / 2) (U % 2) (by omega) (by omega)
      rw [← q2, Int.natCast_ediv, Int.natCast_emod] at h
      exact h
    have hV3 := Lib.hid hV2
    clear hV2
    have q4 := Lib.hid q3
    clear q3 q2
    go_enter Tryz.func104, Tryz.ntmps104
    go_wp2_with (first | (go_at_call 78; refine (len64_named d B hd hB _).mono ?_; rintro e w' ⟨rfl, rfl⟩) | (go_at_call 138; refine (log2Pow10_3 _).mono ?_; rintro e w' ⟨rfl, rfl⟩) | (go_at_call 139; go_in))
    refine (hus'.out _ _ (by go_cell) (by go_cell) (by go_cell)).mono ?_
    rintro e w' ⟨rfl, nq, rfl⟩
    go_wp2_with (first | (go_at_call 142; refine (unmin53 _).mono ?_; rintro e w' ⟨rfl, rfl⟩) | (go_at_call 141; refine (b2i _ _).mono ?_; rintro e w' ⟨rfl, rfl⟩) | (go_at_call 144; refine (round_named _ m hV3.out hm _).mono ?_; rintro e w' ⟨rfl, rfl⟩) | (go_at_call 147; refine (pk'.out _ _ (by have := q4.out; omega)).mono ?_; rintro e w' ⟨rfl, rfl⟩))
    go_ret2
    exact ⟨rfl, below_drewN ((Below.refl _ _).alloc (Nat.le_refl _) _) _⟩
end Go.Proofs.YtngdcnljbfkneabGreatDoor
