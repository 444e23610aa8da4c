/- The walk of FnGmtimeFractionTruncatesTowardZero. -/
import Derived.Test.YtclopknkophfkaaGreatDoorGmE
import Derived.Test.YtclopknkophfkaaGreatDoorFloatRnd
namespace Go.Proofs.YtclopknkophfkaaGreatDoor
open Go.RowKit Civil

theorem gmOk_frac (s : Int) (k : Nat) (hk : k < 1024) (h1 : -1099511627776 ≤ s) (h2 : s ≤ 1099511627776) (b : Int) (hb : (s < 0 ∧ 0 < k ∧ b = s + 1) ∨ ((0 ≤ s ∨ k = 0) ∧ b = s)) (A d : Nat) (hA : (A : Int) = b + 9223372028741760000) (hd : A / 86400 = d) :
    ∃ u v q, floatBits .quo .f64 (floatOfInt .f64 (k : Int)) 4652218415073722368 = some u ∧ floatBits .add .f64 (floatOfInt .f64 s) u = some v ∧ GmOk v b (k * 1000000000 / 1024) A d q ∧
      (k = 0 → FloatKey.Is q ((A : Int) % 60) 0) ∧ (0 < k → ∃ N : Nat, FloatKey.Is q (N : Int) 63 ∧ (2048 * (A % 60) + 1) * 4503599627370496 ≤ N ∧ N ≤ (2048 * (A % 60) + 2047) * 4503599627370496) := by
  have p10 : ((2 ^ 10 : Nat) : Int) = 1024 := rfl
  have n10 : (2 : Nat) ^ (0 + 10) = 1024 := rfl
  have n10' : (2 : Nat) ^ (0 + 10 + 0) = 1024 := rfl
  have pe : ((2 ^ (0 + 10) : Nat) : Int) = 1024 := rfl
  have hs0 := FloatKey.is_ofInt s (by omega)
  have hk0 := FloatKey.is_ofInt (k : Int) (by omega)
  obtain ⟨u, hu, iu⟩ := FloatKey.is_div1024 hk0 (by decide) (by omega)
  have hs10 := hs0.up 10 (by decide)
  rw [p10] at hs10
  obtain ⟨v, hv, iv⟩ := FloatKey.is_add hs10 iu (by omega)
  obtain ⟨sg, m, p, hr, hfl⟩ := FloatKey.is_floor iv (by rw [pe]; omega)
  rw [pe, show (s * 1024 + (k : Int)) / 1024 = s from by omega] at hfl
  have hf10 := hfl.up 10 (by decide)
  rw [p10] at hf10
  obtain ⟨r1, hr1, i1⟩ := FloatKey.is_sub iv hf10 (by omega)
  rw [show s * 1024 + (k : Int) - s * 1024 = (k : Int) from by omega] at i1
  obtain ⟨r2, hr2, i2⟩ := FloatKey.is_mul i1 is_giga (by decide) (by omega)
  have h3 := FloatKey.is_toInt i2 (by rw [n10']; omega)
  rw [n10'] at h3
  have h3' : floatToIntVal .f64 r2 .i64 = some ((k * 1000000000 / 1024 : Nat) : Int) := by
    rw [h3, if_neg (by omega)]
    congr 2
  have hcv := FloatKey.is_toInt iv (by rw [n10]; omega)
  rw [n10] at hcv
  have hcv' : floatToIntVal .f64 v .i64 = some b := by
    rw [hcv]
    congr 1
    split <;> omega
  have hns : k * 1000000000 / 1024 < 1000000000 := by omega
  have hsec := FloatKey.is_ofInt ((A : Int) % 60) (by omega)
  rcases Nat.eq_zero_or_pos k with c | c
  · subst c
    have hq1 : floatBits .quo .f64 (floatOfInt .f64 ((0 * 1000000000 / 1024 : Nat) : Int)) 4741671816366391296 = some 0 := by decide +kernel
    obtain ⟨q, hq, iq⟩ := FloatKey.is_add hsec is_zero (by omega)
    rw [Int.add_zero] at iq
    exact ⟨u, v, q, hu, hv, ⟨⟨_, r1, r2, 0, fun w => floor_any _ sg m p hr w, hr1, hr2, h3', hq1, hq⟩, hcv', ⟨by omega, by omega, by omega, by omega, hd⟩, hns, by omega, by omega⟩, fun _ => iq, fun h => absurd h (by decide)⟩
  · obtain ⟨q1, hq1, f1, f2, f3, f4⟩ := FloatKey.quo_bd k c hk
    have hsec' : FloatKey.Is (floatOfInt .f64 ((A : Int) % 60)) ((A % 60 : Nat) : Int) 0 := by
      rw [show ((A % 60 : Nat) : Int) = (A : Int) % 60 from by omega]
      exact hsec
    obtain ⟨q, N, hq, iq, b1, b2⟩ := FloatKey.add_bd (A % 60) hsec' (Nat.mod_lt _ (by decide)) f1 f2 f3 f4
    exact ⟨u, v, q, hu, hv, ⟨⟨_, r1, r2, q1, fun w => floor_any _ sg m p hr w, hr1, hr2, h3', hq1, hq⟩, hcv', ⟨by omega, by omega, by omega, by omega, hd⟩, hns, by omega, by omega⟩, fun h => absurd h (by omega), fun _ => ⟨N, iq, b1, b2⟩⟩
set_option maxRecDepth 100000 in
set_option maxHeartbeats 4000000 in
theorem frac_Z (s : Int) (h1 : -1099511627776 ≤ s) (h2 : s ≤ 1099511627776)  (u v q1 q0 : Nat) (Y M D H Mi Wd Yd : Int)
    (hu : floatBits .quo .f64 (floatOfInt .f64 0) 4652218415073722368 = some u) (hv : floatBits .add .f64 (floatOfInt .f64 s) u = some v)
    (hg1 : ∀ w, Calls Tryz.prog 49 #[.float .f64 v] w fun e w' => e = .returned (.tuple #[.int .i64 Y, .int .i64 M, .int .i64 D, .int .i64 H, .int .i64 Mi, .float .f64 q1, .int .i64 Wd, .int .i64 Yd, .bool true]) ∧ Below w.heap.size w w')
    (hg0 : ∀ w, Calls Tryz.prog 49 #[.float .f64 (floatOfInt .f64 s)] w fun e w' => e = .returned (.tuple #[.int .i64 Y, .int .i64 M, .int .i64 D, .int .i64 H, .int .i64 Mi, .float .f64 q0, .int .i64 Wd, .int .i64 Yd, .bool true]) ∧ Below w.heap.size w w')
    (heq : (FloatKind.f64.format.order q1 q0 == some .eq) = true) (w : World) :
    Calls Tryz.prog 13 #[.int .i64 s, .int .i64 0] w fun e w' => e = .returned (.bool true) ∧ Below w.heap.size w w' := by
  have k1 := fun w => run_float_arith (P := Tryz.prog) w .quo 37 .f64 (floatOfInt .f64 0) 4652218415073722368 u hu
  have k2 := fun w => run_float_arith (P := Tryz.prog) w .add 37 .f64 (floatOfInt .f64 s) u v hv
  have HG1 := Lib.hid hg1
  have HG0 := Lib.hid hg0
  clear hu hv hg1 hg0
  by_cases h5 : s < 0
  · go_enter Tryz.func13, Tryz.ntmps13
    go_wp2_with (go_at_call 49; with_reducible refine (HG1.out _).mono ?_; rintro e w1 ⟨rfl, hb1⟩)
    have HB1 := Lib.hid hb1
    clear hb1
    go_wp2_with (go_at_call 49; with_reducible refine (HG0.out _).mono ?_; rintro e w2 ⟨rfl, hb2⟩)
    have HB2 := Lib.hid (HB1.out.trans (hb2.mono HB1.out.size))
    clear hb2
    go_wp2
    go_ret
    exact ⟨rfl, HB2.out⟩
  · go_enter Tryz.func13, Tryz.ntmps13
    go_wp2_with (go_at_call 49; with_reducible refine (HG1.out _).mono ?_; rintro e w1 ⟨rfl, hb1⟩)
    have HB1 := Lib.hid hb1
    clear hb1
    go_wp2_with (go_at_call 49; with_reducible refine (HG0.out _).mono ?_; rintro e w2 ⟨rfl, hb2⟩)
    have HB2 := Lib.hid (HB1.out.trans (hb2.mono HB1.out.size))
    clear hb2
    go_wp2
    go_ret
    exact ⟨rfl, HB2.out⟩
set_option maxRecDepth 100000 in
set_option maxHeartbeats 4000000 in
theorem frac_P (s k : Int) (h1 : -1099511627776 ≤ s) (h2 : s ≤ 1099511627776) (h3 : 0 < k) (h4 : k < 1024) (h5 : 0 ≤ s) (u v q1 q0 : Nat) (Y M D H Mi Wd Yd : Int)
    (hu : floatBits .quo .f64 (floatOfInt .f64 k) 4652218415073722368 = some u) (hv : floatBits .add .f64 (floatOfInt .f64 s) u = some v)
    (hg1 : ∀ w, Calls Tryz.prog 49 #[.float .f64 v] w fun e w' => e = .returned (.tuple #[.int .i64 Y, .int .i64 M, .int .i64 D, .int .i64 H, .int .i64 Mi, .float .f64 q1, .int .i64 Wd, .int .i64 Yd, .bool true]) ∧ Below w.heap.size w w')
    (hg0 : ∀ w, Calls Tryz.prog 49 #[.float .f64 (floatOfInt .f64 s)] w fun e w' => e = .returned (.tuple #[.int .i64 Y, .int .i64 M, .int .i64 D, .int .i64 H, .int .i64 Mi, .float .f64 q0, .int .i64 Wd, .int .i64 Yd, .bool true]) ∧ Below w.heap.size w w')
    (q2 : Nat) (hq2 : floatBits .add .f64 q0 4607182418800017408 = some q2) (hgt : (FloatKind.f64.format.order q1 q0 == some .gt) = true) (hlt : (FloatKind.f64.format.order q1 q2 == some .lt) = true) (w : World) :
    Calls Tryz.prog 13 #[.int .i64 s, .int .i64 k] w fun e w' => e = .returned (.bool true) ∧ Below w.heap.size w w' := by
  have k1 := fun w => run_float_arith (P := Tryz.prog) w .quo 37 .f64 (floatOfInt .f64 k) 4652218415073722368 u hu
  have k2 := fun w => run_float_arith (P := Tryz.prog) w .add 37 .f64 (floatOfInt .f64 s) u v hv
  have k3 := fun w => run_float_arith (P := Tryz.prog) w .add 37 .f64 q0 4607182418800017408 q2 hq2
  clear hq2
  have HG1 := Lib.hid hg1
  have HG0 := Lib.hid hg0
  clear hu hv hg1 hg0
  go_enter Tryz.func13, Tryz.ntmps13
  go_wp2_with (go_at_call 49; with_reducible refine (HG1.out _).mono ?_; rintro e w1 ⟨rfl, hb1⟩)
  have HB1 := Lib.hid hb1
  clear hb1
  go_wp2_with (go_at_call 49; with_reducible refine (HG0.out _).mono ?_; rintro e w2 ⟨rfl, hb2⟩)
  have HB2 := Lib.hid (HB1.out.trans (hb2.mono HB1.out.size))
  clear hb2
  go_wp2
  go_ret
  exact ⟨rfl, HB2.out⟩
set_option maxRecDepth 100000 in
set_option maxHeartbeats 4000000 in
theorem frac_N (s k : Int) (h1 : -1099511627776 ≤ s) (h2 : s ≤ 1099511627776) (h3 : 0 < k) (h4 : k < 1024) (h5 : s < 0) (u v q1 q0 : Nat) (Y M D H Mi Wd Yd : Int)
    (hu : floatBits .quo .f64 (floatOfInt .f64 k) 4652218415073722368 = some u) (hv : floatBits .add .f64 (floatOfInt .f64 s) u = some v)
    (hg1 : ∀ w, Calls Tryz.prog 49 #[.float .f64 v] w fun e w' => e = .returned (.tuple #[.int .i64 Y, .int .i64 M, .int .i64 D, .int .i64 H, .int .i64 Mi, .float .f64 q1, .int .i64 Wd, .int .i64 Yd, .bool true]) ∧ Below w.heap.size w w')
    (hg0 : ∀ w, Calls Tryz.prog 49 #[.float .f64 (floatOfInt .f64 (s + 1))] w fun e w' => e = .returned (.tuple #[.int .i64 Y, .int .i64 M, .int .i64 D, .int .i64 H, .int .i64 Mi, .float .f64 q0, .int .i64 Wd, .int .i64 Yd, .bool true]) ∧ Below w.heap.size w w')
    (q2 : Nat) (hq2 : floatBits .add .f64 q0 4607182418800017408 = some q2) (hgt : (FloatKind.f64.format.order q1 q0 == some .gt) = true) (hlt : (FloatKind.f64.format.order q1 q2 == some .lt) = true) (w : World) :
    Calls Tryz.prog 13 #[.int .i64 s, .int .i64 k] w fun e w' => e = .returned (.bool true) ∧ Below w.heap.size w w' := by
  have k1 := fun w => run_float_arith (P := Tryz.prog) w .quo 37 .f64 (floatOfInt .f64 k) 4652218415073722368 u hu
  have k2 := fun w => run_float_arith (P := Tryz.prog) w .add 37 .f64 (floatOfInt .f64 s) u v hv
  have k3 := fun w => run_float_arith (P := Tryz.prog) w .add 37 .f64 q0 4607182418800017408 q2 hq2
  clear hq2
  have HG1 := Lib.hid hg1
  have HG0 := Lib.hid hg0
  clear hu hv hg1 hg0
  go_enter Tryz.func13, Tryz.ntmps13
  go_wp2_with (go_at_call 49; with_reducible refine (HG1.out _).mono ?_; rintro e w1 ⟨rfl, hb1⟩)
  have HB1 := Lib.hid hb1
  clear hb1
  go_wp2_with (go_at_call 49; with_reducible refine (HG0.out _).mono ?_; rintro e w2 ⟨rfl, hb2⟩)
  have HB2 := Lib.hid (HB1.out.trans (hb2.mono HB1.out.size))
  clear hb2
  go_wp2
  go_ret
  exact ⟨rfl, HB2.out⟩
theorem is_one : FloatKey.Is 4607182418800017408 1 0 := by
  have h := FloatKey.is_ofInt 1 (by decide)
  have e : floatOfInt .f64 1 = 4607182418800017408 := by decide +kernel
  rwa [e] at h
/-- The comparisons' answers. -/
theorem frac_cmp (q q0 S N : Nat) (hq : FloatKey.Is q (N : Int) 63) (h0 : FloatKey.Is q0 (S : Int) 0) (hS : S < 60) (b1 : (2048 * S + 1) * 4503599627370496 ≤ N) (b2 : N ≤ (2048 * S + 2047) * 4503599627370496) :
    ∃ q2, floatBits .add .f64 q0 4607182418800017408 = some q2 ∧ (FloatKind.f64.format.order q q0 == some .gt) = true ∧ (FloatKind.f64.format.order q q2 == some .lt) = true := by
  obtain ⟨q2, hq2, i2⟩ := FloatKey.is_add h0 is_one (by omega)
  have a0 : FloatKey.Is q0 ((S : Int) * 9223372036854775808) 63 := h0.up 63 (by decide)
  have a2 : FloatKey.Is q2 (((S : Int) + 1) * 9223372036854775808) 63 := i2.up 63 (by decide)
  refine ⟨q2, hq2, ?_, ?_⟩
  · rw [FloatKey.ord_gt hq a0]; exact decide_eq_true (by omega)
  · rw [FloatKey.ord_lt hq a2]; exact decide_eq_true (by omega)
set_option maxHeartbeats 1000000 in
theorem walk_FnGmtimeFractionTruncatesTowardZero (s : Int) (_ws : (Lit.int .i64 s).wf = true) (k : Int) (_wk : (Lit.int .i64 k).wf = true) (w : World) :
    Calls Tryz.prog 13 #[.int .i64 s, .int .i64 k] w fun e w' => e = .returned (.bool true) ∧ Below w.heap.size w w' := by
  by_cases c1 : s < -1099511627776
  · go_enter Tryz.func13, Tryz.ntmps13
    go_wp2
    go_ret
    exact ⟨rfl, by go_grown⟩
  by_cases c2 : 1099511627776 < s
  · go_enter Tryz.func13, Tryz.ntmps13
    go_wp2
    go_ret
    exact ⟨rfl, by go_grown⟩
  by_cases c3 : k < 0
  · go_enter Tryz.func13, Tryz.ntmps13
    go_wp2
    go_ret
    exact ⟨rfl, by go_grown⟩
  by_cases c4 : 1023 < k
  · go_enter Tryz.func13, Tryz.ntmps13
    go_wp2
    go_ret
    exact ⟨rfl, by go_grown⟩
  obtain ⟨n, rfl⟩ : ∃ n : Nat, k = n := ⟨k.toNat, by omega⟩
  rcases Nat.eq_zero_or_pos n with h0 | h0
  · subst h0
    obtain ⟨A, hA⟩ : ∃ A : Nat, (A : Int) = s + 9223372028741760000 := ⟨(s + 9223372028741760000).toNat, by omega⟩
    obtain ⟨d, hd⟩ : ∃ d, A / 86400 = d := ⟨_, rfl⟩
    obtain ⟨u, v, q, hu, hv, hG, hZ, _⟩ := gmOk_frac s 0 (by decide) (by omega) (by omega) s (Or.inr ⟨Or.inr rfl, rfl⟩) A d hA hd
    obtain ⟨q0, hG0, i0⟩ := gmOk_int s A d (by omega) (by omega) hA hd
    exact frac_Z s (by omega) (by omega) u v q q0 _ _ _ _ _ _ _ hu hv (fun w => zzgmtime_any v s _ A d q hG w) (fun w => zzgmtime_any _ s 0 A d q0 hG0 w)
      ((FloatKey.ord_eq (hZ rfl) i0).trans (decide_eq_true rfl)) w
  · by_cases hs : s < 0
    · obtain ⟨A, hA⟩ : ∃ A : Nat, (A : Int) = s + 1 + 9223372028741760000 := ⟨(s + 1 + 9223372028741760000).toNat, by omega⟩
      obtain ⟨d, hd⟩ : ∃ d, A / 86400 = d := ⟨_, rfl⟩
      obtain ⟨u, v, q, hu, hv, hG, _, hP⟩ := gmOk_frac s n (by omega) (by omega) (by omega) (s + 1) (Or.inl ⟨hs, h0, rfl⟩) A d hA hd
      obtain ⟨q0, hG0, i0⟩ := gmOk_int (s + 1) A d (by omega) (by omega) hA hd
      obtain ⟨N, iN, b1, b2⟩ := hP h0
      rw [show (A : Int) % 60 = ((A % 60 : Nat) : Int) from by omega] at i0
      obtain ⟨q2, hq2, g1, g2⟩ := frac_cmp q q0 (A % 60) N iN i0 (Nat.mod_lt _ (by decide)) b1 b2
      exact frac_N s n (by omega) (by omega) (by omega) (by omega) hs u v q q0 _ _ _ _ _ _ _ hu hv (fun w => zzgmtime_any v (s + 1) _ A d q hG w) (fun w => zzgmtime_any _ (s + 1) 0 A d q0 hG0 w) q2 hq2 g1 g2 w
    · obtain ⟨A, hA⟩ : ∃ A : Nat, (A : Int) = s + 9223372028741760000 := ⟨(s + 9223372028741760000).toNat, by omega⟩
      obtain ⟨d, hd⟩ : ∃ d, A / 86400 = d := ⟨_, rfl⟩
      obtain ⟨u, v, q, hu, hv, hG, _, hP⟩ := gmOk_frac s n (by omega) (by omega) (by omega) s (Or.inr ⟨Or.inl (by omega), rfl⟩) A d hA hd
      obtain ⟨q0, hG0, i0⟩ := gmOk_int s A d (by omega) (by omega) hA hd
      obtain ⟨N, iN, b1, b2⟩ := hP h0
      rw [show (A : Int) % 60 = ((A % 60 : Nat) : Int) from by omega] at i0
      obtain ⟨q2, hq2, g1, g2⟩ := frac_cmp q q0 (A % 60) N iN i0 (Nat.mod_lt _ (by decide)) b1 b2
      exact frac_P s n (by omega) (by omega) (by omega) (by omega) (by omega) u v q q0 _ _ _ _ _ _ _ hu hv (fun w => zzgmtime_any v s _ A d q hG w) (fun w => zzgmtime_any _ s 0 A d q0 hG0 w) q2 hq2 g1 g2 w
end Go.Proofs.YtclopknkophfkaaGreatDoor
