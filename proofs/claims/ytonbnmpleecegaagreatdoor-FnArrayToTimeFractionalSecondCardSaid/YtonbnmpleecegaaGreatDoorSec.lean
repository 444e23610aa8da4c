/- What stands in the sixth place of a row of fields: an int; a float n + k/1024. -/
import Derived.Test.YtonbnmpleecegaaGreatDoorAtt
namespace Go.Proofs.YtonbnmpleecegaaGreatDoor
open Go.RowKit Go.Deep

theorem is_zero : FloatKey.Is 0 0 0 := by
  have h := FloatKey.is_ofInt 0 (by decide)
  have e : floatOfInt .f64 0 = 0 := by decide +kernel
  rwa [e] at h
theorem is_giga : FloatKey.Is 4741671816366391296 1000000000 0 := by
  have h := FloatKey.is_ofInt 1000000000 (by decide)
  have e : floatOfInt .f64 1000000000 = 4741671816366391296 := by decide +kernel
  rwa [e] at h
theorem secOk_int (s : Int) (h1 : -17592186044416 ≤ s) (h2 : s ≤ 17592186044416) : SecOk (.iface 3 (.int .i64 s)) s 0 := by
  have hv := FloatKey.is_ofInt s (by omega)
  have p0 : ((2 ^ 0 : Nat) : Int) = 1 := rfl
  obtain ⟨sg, m, p, hr, hfl⟩ := FloatKey.is_floor hv (by rw [p0, Int.ediv_one]; omega)
  rw [p0, Int.ediv_one] at hfl
  obtain ⟨r1, hr1, i1⟩ := FloatKey.is_sub hv hfl (by rw [Int.sub_self]; decide)
  rw [Int.sub_self] at i1
  obtain ⟨r2, hr2, i2⟩ := FloatKey.is_mul i1 is_giga (by decide) (by rw [Int.zero_mul]; decide)
  rw [Int.zero_mul] at i2
  have h3 := FloatKey.is_toInt i2 (by decide)
  have hcv := FloatKey.is_toInt hv (by show s.natAbs / 1 ≤ _; omega)
  refine ⟨_, _, r1, r2, fun w => toFloat_i s w, fun w => floor_any _ sg m p hr w, ?_, hr1, hr2, by rw [h3]; rfl⟩
  rw [hcv]
  congr 1
  show (if s < 0 then -((s.natAbs / 1 : Nat) : Int) else ((s.natAbs / 1 : Nat) : Int)) = s
  rw [Nat.div_one]
  split <;> omega
theorem secOk_frac (s : Int) (k : Nat) (hk : k < 1024) (h1 : -1099511627776 ≤ s) (h2 : s ≤ 1099511627776) (b : Int) (hb : (s < 0 ∧ 0 < k ∧ b = s + 1) ∨ ((0 ≤ s ∨ k = 0) ∧ b = s)) :
    ∃ u v, floatBits .quo .f64 (floatOfInt .f64 (k : Int)) 4652218415073722368 = some u ∧ floatBits .add .f64 (floatOfInt .f64 s) u = some v ∧ SecOk (.iface 25 (.float .f64 v)) b (k * 1000000000 / 1024) := by
  have p10 : ((2 ^ 10 : Nat) : Int) = 1024 := rfl
  have n10 : (2 : Nat) ^ (0 + 10) = 1024 := rfl
  have n10' : (2 : Nat) ^ (0 + 10 + 0) = 1024 := rfl
  have pe : ((2 ^ (0 + 10) : Nat) : Int) = 1024 := rfl
  have hs0 := FloatKey.is_ofInt s (by omega)
  have hk0 := FloatKey.is_ofInt (k : Int) (by omega)
  obtain ⟨u, hu, iu⟩ := FloatKey.is_div1024 hk0 (by decide) (by omega)
  have hs10 := hs0.up 10 (by decide)
  rw [p10] at hs10
  obtain ⟨v, hv, iv⟩ := FloatKey.is_add hs10 iu (by omega)
  obtain ⟨sg, m, p, hr, hfl⟩ := FloatKey.is_floor iv (by rw [pe]; omega)
  rw [pe, show (s * 1024 + (k : Int)) / 1024 = s from by omega] at hfl
  have hf10 := hfl.up 10 (by decide)
  rw [p10] at hf10
  obtain ⟨r1, hr1, i1⟩ := FloatKey.is_sub iv hf10 (by omega)
  rw [show s * 1024 + (k : Int) - s * 1024 = (k : Int) from by omega] at i1
  obtain ⟨r2, hr2, i2⟩ := FloatKey.is_mul i1 is_giga (by decide) (by omega)
  have h3 := FloatKey.is_toInt i2 (by rw [n10']; omega)
  rw [n10'] at h3
  have h3' : floatToIntVal .f64 r2 .i64 = some ((k * 1000000000 / 1024 : Nat) : Int) := by
    rw [h3, if_neg (by omega)]
    congr 2
  have hcv := FloatKey.is_toInt iv (by rw [n10]; omega)
  rw [n10] at hcv
  have hcv' : floatToIntVal .f64 v .i64 = some b := by
    rw [hcv]
    congr 1
    split <;> omega
  exact ⟨u, v, hu, hv, _, _, r1, r2, fun w => toFloat_f v w, fun w => floor_any _ sg m p hr w, hcv', hr1, hr2, h3'⟩
end Go.Proofs.YtonbnmpleecegaaGreatDoor
