/- Contracts: parseFloat64 of strconv at powers 0, -1, -3 answers the nearest word. -/
import Derived.Test.YtngdcnljbfkneabGreatDoorParseB
import Derived.Test.YtngdcnljbfkneabGreatDoorFloatPack
namespace Go.Proofs.YtngdcnljbfkneabGreatDoor
open Go.RowKit

theorem word_sgn (s : Bool) (r : Nat) : Ieee.double.word s r = sgnW s + r := by
  unfold Ieee.Format.word
  rw [FloatKey.d_sign]
  unfold sgnW
  cases s <;> simp <;> omega
theorem scale_bounds (d : Nat) (h1 : 0 < d) (h2 : d < 18446744073709551616) : ∃ B c, Lib.bitLen d = B ∧ B = d.log2 + 1 ∧ B + c = 64 ∧ 9223372036854775808 ≤ d * 2 ^ c ∧ d * 2 ^ c < 18446744073709551616 := by
  have hlo := Nat.log2_self_le (n := d) (by omega)
  have hhi := Nat.lt_log2_self (n := d)
  have l2 : d.log2 < 64 := (Nat.log2_lt (by omega)).2 (by simpa using h2)
  have e63 : (2 : Nat) ^ 63 = 9223372036854775808 := by decide
  have e64 : (2 : Nat) ^ 64 = 18446744073709551616 := by decide
  refine ⟨d.log2 + 1, 63 - d.log2, bitLen_log2 d h1 h2, rfl, by omega, ?_, ?_⟩
  · have e : 2 ^ d.log2 * 2 ^ (63 - d.log2) = 9223372036854775808 := by rw [← Nat.pow_add, show d.log2 + (63 - d.log2) = 63 from by omega, e63]
    rw [← e]; exact Nat.mul_le_mul_right _ hlo
  · have e : 2 ^ (d.log2 + 1) * 2 ^ (63 - d.log2) = 18446744073709551616 := by rw [← Nat.pow_add, show d.log2 + 1 + (63 - d.log2) = 64 from by omega, e64]
    rw [← e]; exact Nat.mul_lt_mul_of_pos_right hhi (Nat.two_pow_pos _)
theorem scale_wrap (d c : Nat) (h : d * 2 ^ c < 18446744073709551616) : IntKind.u64.wrap ((d : Int) * 2 ^ c) = ((d * 2 ^ c : Nat) : Int) := by
  have e : ((d : Int) * 2 ^ c) = ((d * 2 ^ c : Nat) : Int) := by rw [Int.natCast_mul, Int.natCast_pow]; rfl
  rw [e]; exact Mu.wrap _ h
theorem bits_low (d k : Nat) (h : 2 ^ k ≤ d) : k ≤ d.log2 := (Nat.le_log2 (by have := Nat.two_pow_pos k; omega)).2 h
theorem bits_high (d k : Nat) (h0 : 0 < d) (h : d < 2 ^ (k + 1)) : d.log2 ≤ k := by have := (Nat.log2_lt (n := d) (k := k + 1) (by omega)).2 h; omega

theorem parse_nearest (s : Bool) (d : Nat) (h1 : 4503599627370496 ≤ d) (h2 : d ≤ 9223372036854775808) (w : World)
    (t0 : w.cell? ⟨19, 696, none⟩ = some (.int .u64 9223372036854775808)) (t1 : w.cell? ⟨19, 697, none⟩ = some (.int .u64 0)) (hw : 19 < w.heap.size) :
    Calls Tryz.prog 104 #[.int .u64 d, .int .i64 0, .int .u64 (sgnW s)] w fun e w' => e = .returned (.tuple #[.float .f64 (Ieee.double.nearest s d 0), .nilIface]) ∧ Below w.heap.size w w' := by
  obtain ⟨q, R, l, hl, l1, l2, hqR, hR, q1, q2, hn⟩ := FloatKey.nearest_big s d h1 (by omega)
  obtain ⟨B, c, hB, hBl, hc, x1, x2⟩ := scale_bounds d (by omega) (by omega)
  have hcl : c = 63 - l := by omega
  have hR2 : R % 2 = 0 := by
    by_cases e : l = 63
    · have : c = 0 := by omega
      rw [← hcl, this, Nat.pow_zero, Nat.mul_one] at hqR
      rw [this, Nat.pow_zero, Nat.mul_one] at x1
      omega
    · have : d * 2 ^ (63 - l) = d * 2 ^ (62 - l) * 2 := by rw [Nat.mul_assoc, ← Nat.pow_succ, show (62 - l).succ = 63 - l from by omega]
      omega
  obtain ⟨U, V, E, f, hU, hU2, hV, hm, hf, hE, hw2⟩ := FloatKey.pack_round q R l q1 q2 hR hR2 l2
  obtain ⟨X, hX⟩ : ∃ X, X = d * 2 ^ c := ⟨_, rfl⟩
  rw [← hcl, ← hX] at hqR
  rw [← hX] at x2
  have hus : ∀ (b : Nat) (w : World), w.cell? ⟨b, 0, none⟩ = some (.int .u64 ((9223372036854775808 : Nat) : Int)) → w.cell? ⟨b, 1, none⟩ = some (.int .u64 ((0 : Nat) : Int)) → w.cell? ⟨b, 2, none⟩ = some (.int .i64 8) →
      Calls Tryz.prog 140 #[.int .u64 X, .pointer (some ⟨b, 0, none⟩)] w fun e w' => e = .returned (.int .u64 (U : Int)) ∧ ∃ n, w' = w.drewN n := by
    intro b w c0 c1 c2
    rcases hU with ⟨a1, a2⟩ | ⟨a1, a2⟩
    · have h := uscale_exact X 9223372036854775808 0 (X / 2) 0 0 0 b x2 (by decide) (by decide) (Lib.hid (by omega)) (Lib.hid (by omega)) (Lib.hid (by omega)) (Lib.hid (by omega)) (by omega) (by omega) (by omega) (by omega) w c0 c1 c2
      rw [show X / 2 / 256 = U from by omega] at h
      exact h
    · have h := uscale_sticky X 9223372036854775808 (X / 2) 0 b x2 (by decide) (Lib.hid (by omega)) (Lib.hid (by omega)) (by omega) (by omega) w c0 c2
      rw [show X / 2 / 512 * 2 + 1 = U from by omega] at h
      exact h
  have h := parse_0 d B c X 9223372036854775808 0 U V E f s (by omega) (Lib.hid hB) (by omega) (by omega) (by omega) (by rw [scale_wrap d c (by omega), hX]) hU2 hus (by unfold Packs; rcases hV with ⟨a1, a2, a3⟩ | ⟨a1, a2, a3⟩; exact Or.inl ⟨a1, a2, by omega⟩; exact Or.inr ⟨a1, a2, by omega⟩) (Lib.hid hm) hf hE w t0 t1 hw
  rw [hn, word_sgn, ← hw2, ← Nat.add_assoc]
  exact h

theorem parse_tenth (s : Bool) (d n : Nat) (hd : d = 10 * n) (h1 : 4503599627370496 ≤ d) (hn : n ≤ 9007199254740992) (w : World)
    (t0 : w.cell? ⟨19, 694, none⟩ = some (.int .u64 14757395258967641293)) (t1 : w.cell? ⟨19, 695, none⟩ = some (.int .u64 3689348814741910323)) (hw : 19 < w.heap.size) :
    Calls Tryz.prog 104 #[.int .u64 d, .int .i64 (-1), .int .u64 (sgnW s)] w fun e w' => e = .returned (.tuple #[.float .f64 (Ieee.double.nearest s n 0), .nilIface]) ∧ Below w.heap.size w w' := by
  obtain ⟨B, c, hB, hBl, hc, x1, x2⟩ := scale_bounds d (by omega) (by omega)
  have p1 : (2 : Nat) ^ 52 = 4503599627370496 := by decide
  have p2 : (2 : Nat) ^ (56 + 1) = 144115188075855872 := by decide
  have b1 : 52 ≤ d.log2 := bits_low d 52 (by omega)
  have b2 : d.log2 ≤ 56 := bits_high d 56 (by omega) (by omega)
  obtain ⟨N, hN⟩ : ∃ N, N = n * 2 ^ c := ⟨_, rfl⟩
  have hX : d * 2 ^ c = 10 * N := by rw [hd, hN, Nat.mul_assoc]
  rw [hX] at x1 x2
  obtain ⟨m, hm0⟩ : ∃ m, m = n * 2 ^ (c - 7) := ⟨_, rfl⟩
  have hNm : N = m * 128 := by
    have e : (2 : Nat) ^ 7 = 128 := by decide
    rw [hN, hm0, Nat.mul_assoc, ← e, ← Nat.pow_add, Nat.sub_add_cancel (by omega)]
  obtain ⟨V, E, f, hV, hm, hf, hE, hu⟩ := FloatKey.pack_exact n m B c 7 4 hm0 (by omega) hc (by omega) (by omega) (by omega) (by omega) hn
  have hus : ∀ (b : Nat) (w : World), w.cell? ⟨b, 0, none⟩ = some (.int .u64 ((14757395258967641293 : Nat) : Int)) → w.cell? ⟨b, 1, none⟩ = some (.int .u64 ((3689348814741910323 : Nat) : Int)) → w.cell? ⟨b, 2, none⟩ = some (.int .i64 8) →
      Calls Tryz.prog 140 #[.int .u64 ((10 * N : Nat) : Int), .pointer (some ⟨b, 0, none⟩)] w fun e w' => e = .returned (.int .u64 ((4 * m : Nat) : Int)) ∧ ∃ n, w' = w.drewN n := by
    intro b w c0 c1 c2
    have h := uscale_exact (10 * N) 14757395258967641293 3689348814741910323 (8 * N) (2 * N) (2 * N - 1) (10 * N * 3689348814741910323 % 18446744073709551616) b x2 (by decide) (by decide) (Lib.hid (by omega)) (Lib.hid (by omega)) (Lib.hid (by omega)) (Lib.hid rfl) (by omega) (by omega) (by omega) (by omega) w c0 c1 c2
    rw [show 8 * N / 256 = 4 * m from by omega] at h
    exact h
  have h := parse_1 d B c (10 * N) 14757395258967641293 3689348814741910323 (4 * m) V E f s (by omega) (Lib.hid hB) (by omega) (by omega) (by omega) (by rw [scale_wrap d c (by omega), hX]) (by omega) hus (by unfold Packs; rcases hV with ⟨a1, a2, a3⟩ | ⟨a1, a2, a3⟩; exact Or.inl ⟨a1, a2, by omega⟩; exact Or.inr ⟨a1, a2, by omega⟩) (Lib.hid hm) hf hE w t0 t1 hw
  obtain ⟨r, hr, hr2, hr3⟩ := FloatKey.nearest_whole s n hn
  have e := FloatKey.units_inj (hu.trans hr2.symm)
  rw [hr, word_sgn, ← e, ← Nat.add_assoc]
  exact h

theorem parse_milli (s : Bool) (d n : Nat) (hd : d = 1000 * n) (h1 : 4503599627370496 ≤ d) (hn : n ≤ 9007199254740992) (w : World)
    (t0 : w.cell? ⟨19, 690, none⟩ = some (.int .u64 9444732965739290428)) (t1 : w.cell? ⟨19, 691, none⟩ = some (.int .u64 11215620396815407382)) (hw : 19 < w.heap.size) :
    Calls Tryz.prog 104 #[.int .u64 d, .int .i64 (-3), .int .u64 (sgnW s)] w fun e w' => e = .returned (.tuple #[.float .f64 (Ieee.double.nearest s n 0), .nilIface]) ∧ Below w.heap.size w w' := by
  obtain ⟨B, c, hB, hBl, hc, x1, x2⟩ := scale_bounds d (by omega) (by omega)
  have p1 : (2 : Nat) ^ 52 = 4503599627370496 := by decide
  have p2 : (2 : Nat) ^ (62 + 1) = 9223372036854775808 := by decide
  have b1 : 52 ≤ d.log2 := bits_low d 52 (by omega)
  have b2 : d.log2 ≤ 62 := bits_high d 62 (by omega) (by omega)
  obtain ⟨N, hN⟩ : ∃ N, N = n * 2 ^ c := ⟨_, rfl⟩
  have hX : d * 2 ^ c = 1000 * N := by rw [hd, hN, Nat.mul_assoc]
  rw [hX] at x1 x2
  obtain ⟨m, hm0⟩ : ∃ m, m = n * 2 ^ (c - 1) := ⟨_, rfl⟩
  have hNm : N = m * 2 := by
    have e : (2 : Nat) ^ 1 = 2 := by decide
    rw [hN, hm0, Nat.mul_assoc, ← e, ← Nat.pow_add, Nat.sub_add_cancel (by omega)]
  obtain ⟨V, E, f, hV, hm, hf, hE, hu⟩ := FloatKey.pack_exact n m B c 1 10 hm0 (by omega) hc (by omega) (by omega) (by omega) (by omega) hn
  have hus : ∀ (b : Nat) (w : World), w.cell? ⟨b, 0, none⟩ = some (.int .u64 ((9444732965739290428 : Nat) : Int)) → w.cell? ⟨b, 1, none⟩ = some (.int .u64 ((11215620396815407382 : Nat) : Int)) → w.cell? ⟨b, 2, none⟩ = some (.int .i64 8) →
      Calls Tryz.prog 140 #[.int .u64 ((1000 * N : Nat) : Int), .pointer (some ⟨b, 0, none⟩)] w fun e w' => e = .returned (.int .u64 ((4 * m : Nat) : Int)) ∧ ∃ n, w' = w.drewN n := by
    intro b w c0 c1 c2
    have h := uscale_exact (1000 * N) 9444732965739290428 11215620396815407382 (512 * N) (608 * N) (608 * N - 1) (1000 * N * 11215620396815407382 % 18446744073709551616) b x2 (by decide) (by decide) (Lib.hid (by omega)) (Lib.hid (by omega)) (Lib.hid (by omega)) (Lib.hid rfl) (by omega) (by omega) (by omega) (by omega) w c0 c1 c2
    rw [show 512 * N / 256 = 4 * m from by omega] at h
    exact h
  have h := parse_3 d B c (1000 * N) 9444732965739290428 11215620396815407382 (4 * m) V E f s (by omega) (Lib.hid hB) (by omega) (by omega) (by omega) (by rw [scale_wrap d c (by omega), hX]) (by omega) hus (by unfold Packs; rcases hV with ⟨a1, a2, a3⟩ | ⟨a1, a2, a3⟩; exact Or.inl ⟨a1, a2, by omega⟩; exact Or.inr ⟨a1, a2, by omega⟩) (Lib.hid hm) hf hE w t0 t1 hw
  obtain ⟨r, hr, hr2, hr3⟩ := FloatKey.nearest_whole s n hn
  have e := FloatKey.units_inj (hu.trans hr2.symm)
  rw [hr, word_sgn, ← e, ← Nat.add_assoc]
  exact h
end Go.Proofs.YtngdcnljbfkneabGreatDoor
