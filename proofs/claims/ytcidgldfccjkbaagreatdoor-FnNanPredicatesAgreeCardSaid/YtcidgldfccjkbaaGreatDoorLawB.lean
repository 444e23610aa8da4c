/- The walks of the other laws on isnormal, isfinite, isinfinite, isnan, nan. -/
import Derived.Test.YtcidgldfccjkbaaGreatDoorNan
import Derived.Test.YtcidgldfccjkbaaGreatDoorLawA
namespace Go.Proofs.YtcidgldfccjkbaaGreatDoor
open Go.RowKit


theorem isInf_tests (f : Nat) : ((FloatKind.f64.format.order f 9218868437227405311 == some .gt) = true ∨ ((FloatKind.f64.format.order f 9218868437227405311 == some .gt) = false ∧ (FloatKind.f64.format.order f 18442240474082181119 == some .lt) = true)) ∧ FloatKey.isInf f = true ∨
    ((FloatKind.f64.format.order f 9218868437227405311 == some .gt) = false ∧ (FloatKind.f64.format.order f 18442240474082181119 == some .lt) = false) ∧ FloatKey.isInf f = false := by
  have e1 := FloatKey.gt_key f 9218868437227405311
  have e2 := FloatKey.lt_key f 18442240474082181119
  have k1 : FloatKey.key 9218868437227405311 = 9218868437227405311 := by decide
  have k2 : FloatKey.key 18442240474082181119 = -9218868437227405311 := by decide
  have n1 : FloatKey.isNaN 9218868437227405311 = false := by decide
  have n2 : FloatKey.isNaN 18442240474082181119 = false := by decide
  have r0 : FloatKey.rung f < 9223372036854775808 := Nat.mod_lt _ (by decide)
  change (FloatKind.f64.format.order f 9218868437227405311 == some .gt) = _ at e1
  change (FloatKind.f64.format.order f 18442240474082181119 == some .lt) = _ at e2
  rw [e1, e2, k1, k2, n1, n2]
  unfold FloatKey.isNaN FloatKey.isInf FloatKey.key FloatKey.sg
  cases FloatKey.sgn f <;> simp <;> omega

theorem walk_FnIsnormalIntIsExactlyNonzero (n : Int) (wn : (Lit.int .i64 n).wf = true) (w : World) :
    Calls Tryz.prog 4 #[.int .i64 n] w fun e w' => e = .returned (.bool true) ∧ Below w.heap.size w w' := by
  have h := (ofInt_facts n wn).1
  have e := (ofInt_facts n wn).2.2
  have q : ((n != 0) == (n != 0)) = true := beq_self_eq_true _
  go_enter Tryz.func4, Tryz.ntmps4
  go_wp2_with (first | (go_at_call 14; refine (zz_isnormal_Int n wn _).mono ?_; rintro e w' ⟨rfl, rfl⟩) | (go_at_call 13; refine (zz_isnormal_Float _ h _).mono ?_; rintro e w' ⟨rfl, rfl⟩) | go_in)
  all_goals (go_ret; exact ⟨by first | rfl | (rw [← q]; rfl) | simp, Below.refl _ _⟩)

theorem walk_FnIsnormalRefusesNonNumbers (s : ByteArray) (_ws : s.size ≤ maxLen) (b : Bool) (w : World) :
    Calls Tryz.prog 6 #[.string s, .bool b] w fun e w' => e = .returned (.bool true) ∧ Below w.heap.size w w' := by
  go_enter Tryz.func6, Tryz.ntmps6
  go_wp2_with (first | (go_at_call 19; refine (zz_isnormal_String s _).mono ?_; rintro e w' ⟨rfl, rfl⟩) | (go_at_call 20; refine (zz_isnormal_Bool b _).mono ?_; rintro e w' ⟨rfl, rfl⟩) | (go_at_call 21; refine (zz_isnormal_Nil _).mono ?_; rintro e w' ⟨rfl, rfl⟩) | go_in)
  all_goals (go_ret; exact ⟨rfl, Below.refl _ _⟩)

theorem walk_FnIsinfiniteCaseTable (f : Nat) (wf : (Lit.float .f64 f).wf = true) (n : Int) (wn : (Lit.int .i64 n).wf = true) (s : ByteArray) (_ws : s.size ≤ maxLen) (w : World) :
    Calls Tryz.prog 7 #[.float .f64 f, .int .i64 n, .string s] w fun e w' => e = .returned (.bool true) ∧ Below w.heap.size w w' := by
  have h := wf_float f wf
  rcases isInf_tests f with ⟨t1 | ⟨t1, t2⟩, t3⟩ | ⟨⟨t1, t2⟩, t3⟩
  all_goals
    go_enter Tryz.func7, Tryz.ntmps7
    go_wp2_with (first | (go_at_call 15; refine (zz_isinf_F f h _).mono ?_; rintro e w' ⟨rfl, rfl⟩) | (go_at_call 24; refine (zz_isinf_I n wn _).mono ?_; rintro e w' ⟨rfl, rfl⟩) | (go_at_call 25; refine (zz_isinf_Nil _).mono ?_; rintro e w' ⟨rfl, rfl⟩) | (go_at_call 26; refine (zz_isinf_S s _).mono ?_; rintro e w' ⟨rfl, rfl⟩) | go_in)
    all_goals (go_ret; exact ⟨rfl, Below.refl _ _⟩)

theorem walk_FnIsfiniteCaseTable (f : Nat) (wf : (Lit.float .f64 f).wf = true) (n : Int) (wn : (Lit.int .i64 n).wf = true) (s : ByteArray) (_ws : s.size ≤ maxLen) (w : World) :
    Calls Tryz.prog 8 #[.float .f64 f, .int .i64 n, .string s] w fun e w' => e = .returned (.bool true) ∧ Below w.heap.size w w' := by
  have h := wf_float f wf
  rcases isInf_tests f with ⟨t1 | ⟨t1, t2⟩, t3⟩ | ⟨⟨t1, t2⟩, t3⟩
  all_goals
    go_enter Tryz.func8, Tryz.ntmps8
    go_wp2_with (first | (go_at_call 28; refine (zz_isfin_F f h _).mono ?_; rintro e w' ⟨rfl, rfl⟩) | (go_at_call 29; refine (zz_isfin_I n wn _).mono ?_; rintro e w' ⟨rfl, rfl⟩) | (go_at_call 30; refine (zz_isfin_Nil _).mono ?_; rintro e w' ⟨rfl, rfl⟩) | (go_at_call 31; refine (zz_isfin_S s _).mono ?_; rintro e w' ⟨rfl, rfl⟩) | go_in)
    all_goals (go_ret; exact ⟨rfl, Below.refl _ _⟩)

theorem walk_FnIsfiniteIsinfiniteComplement (f : Nat) (wf : (Lit.float .f64 f).wf = true) (n : Int) (wn : (Lit.int .i64 n).wf = true) (s : ByteArray) (_ws : s.size ≤ maxLen) (w : World) :
    Calls Tryz.prog 10 #[.float .f64 f, .int .i64 n, .string s] w fun e w' => e = .returned (.bool true) ∧ Below w.heap.size w w' := by
  have h := wf_float f wf
  cases t3 : FloatKey.isInf f
  all_goals
    go_enter Tryz.func10, Tryz.ntmps10
    go_wp2_with (first | (go_at_call 28; refine (zz_isfin_F f h _).mono ?_; rintro e w' ⟨rfl, rfl⟩) | (go_at_call 29; refine (zz_isfin_I n wn _).mono ?_; rintro e w' ⟨rfl, rfl⟩) | (go_at_call 30; refine (zz_isfin_Nil _).mono ?_; rintro e w' ⟨rfl, rfl⟩) | (go_at_call 31; refine (zz_isfin_S s _).mono ?_; rintro e w' ⟨rfl, rfl⟩) | (go_at_call 15; refine (zz_isinf_F f h _).mono ?_; rintro e w' ⟨rfl, rfl⟩) | (go_at_call 24; refine (zz_isinf_I n wn _).mono ?_; rintro e w' ⟨rfl, rfl⟩) | (go_at_call 25; refine (zz_isinf_Nil _).mono ?_; rintro e w' ⟨rfl, rfl⟩) | (go_at_call 26; refine (zz_isinf_S s _).mono ?_; rintro e w' ⟨rfl, rfl⟩) | go_in)
    all_goals (go_ret; exact ⟨rfl, Below.refl _ _⟩)

theorem nan_not_inf (f : Nat) (h : FloatKey.isNaN f = true) : FloatKey.isInf f = false := by
  unfold FloatKey.isNaN at h
  simp only [decide_eq_true_eq] at h
  unfold FloatKey.isInf; simp; omega
theorem walk_FnFloatClassPartition (f : Nat) (wf : (Lit.float .f64 f).wf = true) (n : Int) (wn : (Lit.int .i64 n).wf = true) (w : World) :
    Calls Tryz.prog 11 #[.float .f64 f, .int .i64 n] w fun e w' => e = .returned (.bool true) ∧ Below w.heap.size w w' := by
  have h := wf_float f wf
  cases t4 : FloatKey.isNaN f
  · cases t3 : FloatKey.isInf f
    all_goals
      go_enter Tryz.func11, Tryz.ntmps11
      go_wp2_with (first | (go_at_call 28; refine (zz_isfin_F f h _).mono ?_; rintro e w' ⟨rfl, rfl⟩) | (go_at_call 29; refine (zz_isfin_I n wn _).mono ?_; rintro e w' ⟨rfl, rfl⟩) | (go_at_call 15; refine (zz_isinf_F f h _).mono ?_; rintro e w' ⟨rfl, rfl⟩) | (go_at_call 24; refine (zz_isinf_I n wn _).mono ?_; rintro e w' ⟨rfl, rfl⟩) | (go_at_call 33; refine (zz_isnan_F f _).mono ?_; rintro e w' ⟨rfl, rfl⟩) | (go_at_call 34; refine (zz_isnan_I n wn _).mono ?_; rintro e w' ⟨rfl, rfl⟩) | go_in)
      all_goals (go_ret; exact ⟨rfl, Below.refl _ _⟩)
  · have t3 := nan_not_inf f t4
    go_enter Tryz.func11, Tryz.ntmps11
    go_wp2_with (first | (go_at_call 28; refine (zz_isfin_F f h _).mono ?_; rintro e w' ⟨rfl, rfl⟩) | (go_at_call 29; refine (zz_isfin_I n wn _).mono ?_; rintro e w' ⟨rfl, rfl⟩) | (go_at_call 15; refine (zz_isinf_F f h _).mono ?_; rintro e w' ⟨rfl, rfl⟩) | (go_at_call 24; refine (zz_isinf_I n wn _).mono ?_; rintro e w' ⟨rfl, rfl⟩) | (go_at_call 33; refine (zz_isnan_F f _).mono ?_; rintro e w' ⟨rfl, rfl⟩) | (go_at_call 34; refine (zz_isnan_I n wn _).mono ?_; rintro e w' ⟨rfl, rfl⟩) | go_in)
    all_goals (go_ret; exact ⟨rfl, Below.refl _ _⟩)

theorem walk_FnIsnanCaseTable (f : Nat) (_wf : (Lit.float .f64 f).wf = true) (n : Int) (wn : (Lit.int .i64 n).wf = true) (s : ByteArray) (_ws : s.size ≤ maxLen) (w : World) :
    Calls Tryz.prog 9 #[.float .f64 f, .int .i64 n, .string s] w fun e w' => e = .returned (.bool true) ∧ Below w.heap.size w w' := by
  have t0 := nan_test f
  cases t4 : FloatKey.isNaN f
  all_goals
    rw [t4] at t0
    go_enter Tryz.func9, Tryz.ntmps9
    go_wp2_with (first | (go_at_call 33; refine (zz_isnan_F f _).mono ?_; rintro e w' ⟨rfl, rfl⟩) | (go_at_call 34; refine (zz_isnan_I n wn _).mono ?_; rintro e w' ⟨rfl, rfl⟩) | (go_at_call 35; refine (zz_isnan_Nil _).mono ?_; rintro e w' ⟨rfl, rfl⟩) | (go_at_call 36; refine (zz_isnan_S s _).mono ?_; rintro e w' ⟨rfl, hb⟩) | go_in)
    all_goals (go_ret; exact ⟨rfl, by first | exact Below.refl _ _ | assumption⟩)

theorem mag_of (f : Nat) (h : FloatKey.isNaN f = false) : ((FloatKind.f64.format.order f 0 == some .lt) = true ∧ FloatKey.key (Op.negFloat .f64 f) = FloatKey.rung f ∧ FloatKey.isNaN (Op.negFloat .f64 f) = false) ∨
    ((FloatKind.f64.format.order f 0 == some .lt) = false ∧ FloatKey.key f = FloatKey.rung f ∧ FloatKey.isNaN f = false) := by
  have l0 := cmp_lt0 f
  rw [h] at l0
  by_cases c : FloatKey.key f < 0
  · left
    exact ⟨by rw [l0]; simpa using c, by rw [FloatKey.neg_key]; exact (key_abs f).1 c, by rw [FloatKey.neg_nan]; exact h⟩
  · right
    exact ⟨by rw [l0]; simp; omega, (key_abs f).2 c, h⟩
theorem neg_lt (f : Nat) (h : f < 18446744073709551616) : Op.negFloat .f64 f < 18446744073709551616 := by
  have e : Op.negFloat .f64 f = f ^^^ 9223372036854775808 := rfl
  rw [e]
  exact Nat.xor_lt_two_pow (n := 64) (by simpa using h) (by decide)
theorem inf_mono (f g : Nat) (h : FloatKey.rung f ≤ FloatKey.rung g) (hg : FloatKey.isNaN g = false) (hf : FloatKey.isInf f = true) : FloatKey.isInf g = true := by
  unfold FloatKey.isInf at hf ⊢
  unfold FloatKey.isNaN at hg
  simp only [decide_eq_true_eq, decide_eq_false_iff_not] at *
  omega
theorem walk_FnIsinfiniteSignAndMagnitude (f : Nat) (wf : (Lit.float .f64 f).wf = true) (g : Nat) (wg : (Lit.float .f64 g).wf = true) (w : World) :
    Calls Tryz.prog 5 #[.float .f64 f, .float .f64 g] w fun e w' => e = .returned (.bool true) ∧ Below w.heap.size w w' := by
  have hf := wf_float f wf
  have hg := wf_float g wg
  have hnf := neg_lt f hf
  have ni := FloatKey.neg_inf f
  have n1 := nan_test f
  have n2 := nan_test g
  cases c1 : FloatKey.isNaN f
  · rw [c1] at n1
    cases c2 : FloatKey.isNaN g
    · rw [c2] at n2
      have fin : ∀ A B : Nat, FloatKey.key A = FloatKey.rung f → FloatKey.isNaN A = false → FloatKey.key B = FloatKey.rung g → FloatKey.isNaN B = false →
          ((FloatKind.f64.format.order A B == some .lt || FloatKind.f64.format.order A B == some .eq) = true ∧ FloatKey.isInf f = true ∧ FloatKey.isInf g = true) ∨
          ((FloatKind.f64.format.order A B == some .lt || FloatKind.f64.format.order A B == some .eq) = true ∧ FloatKey.isInf f = false) ∨
          (FloatKind.f64.format.order A B == some .lt || FloatKind.f64.format.order A B == some .eq) = false := by
        intro A B kA nA kB nB
        have le := cmp_le A B nA nB
        rw [kA, kB] at le
        by_cases c : FloatKey.rung f ≤ FloatKey.rung g
        · have le' : (FloatKind.f64.format.order A B == some .lt || FloatKind.f64.format.order A B == some .eq) = true := by rw [le, decide_eq_true_eq]; omega
          cases i1 : FloatKey.isInf f
          · exact Or.inr (Or.inl ⟨le', rfl⟩)
          · exact Or.inl ⟨le', rfl, inf_mono f g c c2 i1⟩
        · exact Or.inr (Or.inr (by rw [le, decide_eq_false_iff_not]; omega))
      rcases mag_of f c1 with ⟨l1, k1, m1⟩ | ⟨l1, k1, m1⟩
      all_goals
        rcases mag_of g c2 with ⟨l2, k2, m2⟩ | ⟨l2, k2, m2⟩
        all_goals
          have fin' := fin _ _ k1 m1 k2 m2
          clear fin k1 m1 k2 m2
          rcases fin' with ⟨q1, q2, q3⟩ | ⟨q1, q2⟩ | q1
          all_goals
            go_enter Tryz.func5, Tryz.ntmps5
            go_wp2_with (first | (go_at_call 15; refine (zz_isinf_F _ (by assumption) _).mono ?_; rintro e w' ⟨rfl, rfl⟩) | go_in)
            all_goals (go_ret; exact ⟨rfl, Below.refl _ _⟩)
    · rw [c2] at n2
      go_enter Tryz.func5, Tryz.ntmps5
      go_wp2_with (first | (go_at_call 15; refine (zz_isinf_F _ (by assumption) _).mono ?_; rintro e w' ⟨rfl, rfl⟩) | go_in)
      all_goals (go_ret; exact ⟨rfl, Below.refl _ _⟩)
  · rw [c1] at n1
    go_enter Tryz.func5, Tryz.ntmps5
    go_wp2_with (first | (go_at_call 15; refine (zz_isinf_F _ (by assumption) _).mono ?_; rintro e w' ⟨rfl, rfl⟩) | go_in)
    all_goals (go_ret; exact ⟨rfl, Below.refl _ _⟩)

theorem classified (w : World) : Calls Tryz.prog 40 #[.float .f64 9221120237041090561] w fun e w' => e = .returned (.bool true) ∧ w = w' := by
  have t4 : FloatKey.isNaN 9221120237041090561 = true := by decide
  have t3 : FloatKey.isInf 9221120237041090561 = false := by decide
  go_enter Tryz.func40, Tryz.ntmps40
  go_wp2_with (first | (go_at_call 33; refine (zz_isnan_F 9221120237041090561 _).mono ?_; rintro e w' ⟨rfl, rfl⟩) | (go_at_call 15; refine (zz_isinf_F 9221120237041090561 (by decide) _).mono ?_; rintro e w' ⟨rfl, rfl⟩) | (go_at_call 28; refine (zz_isfin_F 9221120237041090561 (by decide) _).mono ?_; rintro e w' ⟨rfl, rfl⟩))
  go_ret
  exact ⟨rfl, rfl⟩
theorem walk_FnNanPredicatesAgree (f : Nat) (_wf : (Lit.float .f64 f).wf = true) (n : Int) (_wn : (Lit.int .i64 n).wf = true) (s : ByteArray) (_ws : s.size ≤ maxLen) (w : World) :
    Calls Tryz.prog 12 #[.float .f64 f, .int .i64 n, .string s] w fun e w' => e = .returned (.bool true) ∧ Below w.heap.size w w' := by
  go_enter Tryz.func12, Tryz.ntmps12
  go_wp2_with (first | (go_at_call 39; refine (zz_nan_F f _).mono ?_; rintro e w' ⟨rfl, rfl⟩) | (go_at_call 41; refine (zz_nan_I n _).mono ?_; rintro e w' ⟨rfl, rfl⟩) | (go_at_call 42; refine (zz_nan_Nil _).mono ?_; rintro e w' ⟨rfl, rfl⟩) | (go_at_call 43; refine (zz_nan_S s _).mono ?_; rintro e w' ⟨rfl, rfl⟩) | (go_at_call 40; refine (classified _).mono ?_; rintro e w' ⟨rfl, rfl⟩) | go_in)
  all_goals (go_ret; exact ⟨rfl, Below.refl _ _⟩)

end Go.Proofs.YtcidgldfccjkbaaGreatDoor
