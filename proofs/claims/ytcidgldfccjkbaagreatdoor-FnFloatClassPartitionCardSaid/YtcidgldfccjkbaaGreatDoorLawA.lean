/- The walk of FnIsnormalFloatMatchesMagnitudeModel: it returns true at every float64. -/
import Derived.Test.YtcidgldfccjkbaaGreatDoorZz
namespace Go.Proofs.YtcidgldfccjkbaaGreatDoor
open Go.RowKit

theorem cmp_ge (a c : Nat) (ha : FloatKey.isNaN a = false) (hc : FloatKey.isNaN c = false) : (FloatKind.f64.format.order a c == some .gt || FloatKind.f64.format.order a c == some .eq) = decide (FloatKey.key c ≤ FloatKey.key a) := by
  have e1 := FloatKey.gt_key a c
  have e2 := FloatKey.eq_key a c
  show (Ieee.double.order a c == some .gt || Ieee.double.order a c == some .eq) = _
  rw [e1, e2, ha, hc, Bool.eq_iff_iff]; simp; omega
theorem cmp_le (a c : Nat) (ha : FloatKey.isNaN a = false) (hc : FloatKey.isNaN c = false) : (FloatKind.f64.format.order a c == some .lt || FloatKind.f64.format.order a c == some .eq) = decide (FloatKey.key a ≤ FloatKey.key c) := by
  have e1 := FloatKey.lt_key a c
  have e2 := FloatKey.eq_key a c
  show (Ieee.double.order a c == some .lt || Ieee.double.order a c == some .eq) = _
  rw [e1, e2, ha, hc, Bool.eq_iff_iff]; simp; omega
theorem cmp_lt0 (a : Nat) : (FloatKind.f64.format.order a 0 == some .lt) = (!FloatKey.isNaN a && decide (FloatKey.key a < 0)) := by
  have e1 := FloatKey.lt_key a 0
  have k : FloatKey.key 0 = 0 := by decide
  have n : FloatKey.isNaN 0 = false := by decide
  show (Ieee.double.order a 0 == some .lt) = _
  rw [e1, k, n]; simp
theorem key_abs (x : Nat) : (FloatKey.key x < 0 → -FloatKey.key x = FloatKey.rung x) ∧ (¬ FloatKey.key x < 0 → FloatKey.key x = FloatKey.rung x) := by
  unfold FloatKey.key FloatKey.sg
  cases FloatKey.sgn x <;> simp <;> omega
theorem key_c1 : FloatKey.key 4503599627370496 = 4503599627370496 := by decide
theorem key_c2 : FloatKey.key 9218868437227405311 = 9218868437227405311 := by decide
theorem mag_tests (a x : Nat) (hk : FloatKey.key a = FloatKey.rung x) (hn : FloatKey.isNaN a = false) :
    (FloatKind.f64.format.order a a == some .eq) = true ∧ (FloatKind.f64.format.order a 4503599627370496 == some .gt || FloatKind.f64.format.order a 4503599627370496 == some .eq) = decide (4503599627370496 ≤ FloatKey.rung x) ∧
    (FloatKind.f64.format.order a 9218868437227405311 == some .lt || FloatKind.f64.format.order a 9218868437227405311 == some .eq) = decide (FloatKey.rung x ≤ 9218868437227405311) := by
  refine ⟨?_, ?_, ?_⟩
  · have := FloatKey.eq_self a
    rw [hn] at this; exact this
  · rw [cmp_ge a _ hn (by decide), hk, key_c1, decide_eq_decide]; omega
  · rw [cmp_le a _ hn (by decide), hk, key_c2, decide_eq_decide]; omega

theorem walk_FnIsnormalFloatMatchesMagnitudeModel (x : Nat) (wx : (Lit.float .f64 x).wf = true) (w : World) :
    Calls Tryz.prog 3 #[.float .f64 x] w fun e w' => e = .returned (.bool true) ∧ Below w.heap.size w w' := by
  have h := wf_float x wx
  have l0 := cmp_lt0 x
  cases hn : FloatKey.isNaN x
  · rw [hn] at l0
    have hb : ∃ a, FloatKey.key a = FloatKey.rung x ∧ FloatKey.isNaN a = false ∧ ((FloatKey.key x < 0 ∧ a = Op.negFloat .f64 x) ∨ (¬ FloatKey.key x < 0 ∧ a = x)) := by
      by_cases hneg : FloatKey.key x < 0
      · exact ⟨_, by rw [FloatKey.neg_key]; exact (key_abs x).1 hneg, by rw [FloatKey.neg_nan]; exact hn, Or.inl ⟨hneg, rfl⟩⟩
      · exact ⟨_, (key_abs x).2 hneg, hn, Or.inr ⟨hneg, rfl⟩⟩
    obtain ⟨a, hk, hna, hcase⟩ := hb
    obtain ⟨t1, t2, t3⟩ := mag_tests a x hk hna
    by_cases c1 : 4503599627370496 ≤ FloatKey.rung x
    · have d1 : decide (4503599627370496 ≤ FloatKey.rung x) = true := decide_eq_true c1
      rw [d1] at t2
      have r : (isNormal x == decide (FloatKey.rung x ≤ 9218868437227405311)) = true := by unfold isNormal; rw [beq_iff_eq, decide_eq_decide]; omega
      rcases hcase with ⟨hneg, rfl⟩ | ⟨hneg, rfl⟩
      · have l1 : (FloatKind.f64.format.order x 0 == some .lt) = true := by rw [l0]; simpa using hneg
        clear l0 hk hn hna d1
        go_enter Tryz.func3, Tryz.ntmps3
        go_wp2_with (go_at_call 13; refine (zz_isnormal_Float x h _).mono ?_; rintro e w' ⟨rfl, rfl⟩)
        go_ret
        exact ⟨by rw [← r]; rfl, Below.refl _ _⟩
      · have l1 : (FloatKind.f64.format.order a 0 == some .lt) = false := by rw [l0]; simp; omega
        clear l0 hk hn hna d1
        go_enter Tryz.func3, Tryz.ntmps3
        go_wp2_with (go_at_call 13; refine (zz_isnormal_Float a h _).mono ?_; rintro e w' ⟨rfl, rfl⟩)
        go_ret
        exact ⟨by rw [← r]; rfl, Below.refl _ _⟩
    · have d1 : decide (4503599627370496 ≤ FloatKey.rung x) = false := decide_eq_false c1
      rw [d1] at t2
      have r : (isNormal x == false) = true := by unfold isNormal; simp; omega
      clear t3
      rcases hcase with ⟨hneg, rfl⟩ | ⟨hneg, rfl⟩
      · have l1 : (FloatKind.f64.format.order x 0 == some .lt) = true := by rw [l0]; simpa using hneg
        clear l0 hk hn hna d1
        go_enter Tryz.func3, Tryz.ntmps3
        go_wp2_with (go_at_call 13; refine (zz_isnormal_Float x h _).mono ?_; rintro e w' ⟨rfl, rfl⟩)
        go_ret
        exact ⟨by rw [← r]; rfl, Below.refl _ _⟩
      · have l1 : (FloatKind.f64.format.order a 0 == some .lt) = false := by rw [l0]; simp; omega
        clear l0 hk hn hna d1
        go_enter Tryz.func3, Tryz.ntmps3
        go_wp2_with (go_at_call 13; refine (zz_isnormal_Float a h _).mono ?_; rintro e w' ⟨rfl, rfl⟩)
        go_ret
        exact ⟨by rw [← r]; rfl, Below.refl _ _⟩
  · have l1 : (FloatKind.f64.format.order x 0 == some .lt) = false := by rw [l0, hn]; rfl
    have t1 : (FloatKind.f64.format.order x x == some .eq) = false := by
      have := FloatKey.eq_self x
      rw [hn] at this; exact this
    have r : isNormal x = false := by
      unfold FloatKey.isNaN at hn
      simp only [decide_eq_true_eq] at hn
      unfold isNormal; simp; omega
    clear l0 hn
    go_enter Tryz.func3, Tryz.ntmps3
    go_wp2_with (go_at_call 13; refine (zz_isnormal_Float x h _).mono ?_; rintro e w' ⟨rfl, rfl⟩)
    go_ret
    exact ⟨rfl, Below.refl _ _⟩

end Go.Proofs.YtcidgldfccjkbaaGreatDoor
