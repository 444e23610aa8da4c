/- The walk of FnGmtimeCivilModel. -/
import Derived.Test.YtclopknkophfkaaGreatDoorGmC
import Derived.Test.YtclopknkophfkaaGreatDoorGmD
namespace Go.Proofs.YtclopknkophfkaaGreatDoor
open Go.RowKit Civil

theorem dfcZ_of {y E F : Int} (hE : (y - 1) / 400 = E) (hF : y - 1 - E * 400 = F) : dfcZ y = E * 146097 + (F * 365 + F / 4 - F / 100 + 306) - 719468 := by unfold dfcZ dfcF; rw [hE, hF]
/-- The program's fields are the era algorithm's. -/
theorem civ_link (days : Int) (d : Nat) (hd : (d : Int) = days + 106751991073400) (b1 : -2000000000 ≤ days) :
    yearZ d = civY days ∧ monZ d = civM days ∧ mdayZ d = civD days ∧ days - dfcZ (civY days) = ydZ d - 1 := by
  obtain ⟨n, hn, h1, h2, h3⟩ := civ_nat days
  have hE : days + 719468 = eraZ days * 146097 + n := by unfold doeZ at h1; omega
  obtain ⟨k, hk⟩ : ∃ k : Nat, (k : Int) = eraZ days + 730692556 := ⟨(eraZ days + 730692556).toNat, by omega⟩
  have hdk : d = n + 146097 * k := by omega
  obtain ⟨c1, c2, c3, c4⟩ := cent_era n k
  rw [← hdk] at c1 c2 c3 c4
  obtain ⟨e1, e2⟩ := era_day n hn
  have hay := ayday_lt n
  have hcy := cyear_lt n
  obtain ⟨m1, m2⟩ := month_day (ayday n) hay
  obtain ⟨j1, j2⟩ := jan_feb (ayday n) hay
  have hP : mpZ days = ((5 * ayday n + 2) / 153 : Nat) := by unfold mpZ; rw [h3]; omega
  obtain ⟨mp, hmp⟩ : ∃ mp, mp = (5 * ayday n + 2) / 153 := ⟨_, rfl⟩
  rw [← hmp] at hP m1 m2 j1 j2
  have hjf : jfN (ayday d) = if 10 ≤ mp then 1 else 0 := by
    unfold jfN
    rw [c4]
    by_cases c : 306 ≤ ayday n
    · rw [if_pos c, if_pos (j1.1 c)]
    · rw [if_neg c, if_neg (fun h => c (j1.2 h))]
  have hY : yearZ d = civY days := by
    unfold yearZ civY
    rw [hjf, c1, c3, h2, hP, ← e1]
    by_cases c : 10 ≤ mp
    · rw [if_pos c, if_pos (by omega)]; omega
    · rw [if_neg c, if_neg (by omega)]; omega
  refine ⟨hY, ?_, ?_, ?_⟩
  · unfold monZ civM
    rw [hjf, c4, hP, m1]
    by_cases c : 10 ≤ mp
    · rw [if_pos c, if_pos (by omega)]; omega
    · rw [if_neg c, if_neg (by omega)]; omega
  · unfold mdayZ civD
    rw [c4, h3, hP]; omega
  · have hy0 : yoe n ≤ 399 := by unfold yoe; omega
    have hc3 : cent n ≤ 3 := by unfold cent; omega
    have hcY : civY days = yoe n + eraZ days * 400 + (if 10 ≤ mp then 1 else 0) := by
      unfold civY
      rw [h2, hP]
      by_cases c : 10 ≤ mp
      · rw [if_pos c, if_pos (by omega)]
      · rw [if_neg c, if_neg (by omega)]
    unfold ydZ ydayZ
    rw [hjf, c4, c1, c3, hcY]
    by_cases c : 10 ≤ mp
    · rw [if_pos c, if_pos c]
      rw [dfcZ_of (E := eraZ days) (F := (yoe n : Int)) (by omega) (by omega)]
      simp only [Nat.one_ne_zero, if_false]
      omega
    · rw [if_neg c, if_neg c]
      simp only [if_true]
      by_cases c0 : yoe n = 0
      · have g1 : cent n = 0 := by omega
        have g2 : cyear n = 0 := by omega
        have hl : leapN (cent n + 4 * k) (cyear n) = 1 := by unfold leapN; rw [g1, g2]; exact if_pos ⟨rfl, Or.inr (by omega)⟩
        rw [hl]
        rw [dfcZ_of (E := eraZ days - 1) (F := 399) (by omega) (by omega)]
        omega
      · have hl : (leapN (cent n + 4 * k) (cyear n) : Int) = (if yoe n % 4 = 0 then 1 else 0) - (if yoe n % 100 = 0 then 1 else 0) := by
          unfold leapN
          by_cases w1 : cyear n % 4 = 0
          · by_cases w2 : cyear n = 0
            · rw [if_neg (by rintro ⟨_, h | h⟩; exact h w2; omega), if_pos (by omega), if_pos (by omega)]; rfl
            · rw [if_pos ⟨w1, Or.inl w2⟩, if_pos (by omega), if_neg (by omega)]; rfl
          · rw [if_neg (fun h => w1 h.1), if_neg (by omega), if_neg (by omega)]; rfl
        rw [hl]
        rw [dfcZ_of (E := eraZ days) (F := (yoe n : Int) - 1) (by omega) (by omega)]
        have g1 : ((yoe n : Int) - 1) / 4 = (yoe n : Int) / 4 - (if yoe n % 4 = 0 then 1 else 0) := by
          by_cases w1 : yoe n % 4 = 0
          · rw [if_pos w1]; omega
          · rw [if_neg w1]; omega
        have g2 : ((yoe n : Int) - 1) / 100 = (yoe n : Int) / 100 - (if yoe n % 100 = 0 then 1 else 0) := by
          by_cases w1 : yoe n % 100 = 0
          · rw [if_pos w1]; omega
          · rw [if_neg w1]; omega
        rw [g1, g2]
        clear h1 h2 h3 m1 m2 j1 j2 hjf hl g1 g2
        generalize (if yoe n % 4 = 0 then (1 : Int) else 0) = l4
        generalize (if yoe n % 100 = 0 then (1 : Int) else 0) = l100
        omega

/-! ### Whole seconds -/
theorem is_zero : FloatKey.Is 0 0 0 := by
  have h := FloatKey.is_ofInt 0 (by decide)
  have e : floatOfInt .f64 0 = 0 := by decide +kernel
  rwa [e] at h
theorem is_giga : FloatKey.Is 4741671816366391296 1000000000 0 := by
  have h := FloatKey.is_ofInt 1000000000 (by decide)
  have e : floatOfInt .f64 1000000000 = 4741671816366391296 := by decide +kernel
  rwa [e] at h
theorem gmOk_int (s : Int) (A d : Nat) (h1 : -17592186044416 ≤ s) (h2 : s ≤ 17592186044416) (hA : (A : Int) = s + 9223372028741760000) (hd : A / 86400 = d) :
    ∃ q, GmOk (floatOfInt .f64 s) s 0 A d q ∧ FloatKey.Is q ((A : Int) % 60) 0 := by
  have hv := FloatKey.is_ofInt s (by omega)
  have p0 : ((2 ^ 0 : Nat) : Int) = 1 := rfl
  obtain ⟨sg, m, p, hr, hfl⟩ := FloatKey.is_floor hv (by rw [p0, Int.ediv_one]; omega)
  rw [p0, Int.ediv_one] at hfl
  obtain ⟨r1, hr1, i1⟩ := FloatKey.is_sub hv hfl (by rw [Int.sub_self]; decide)
  rw [Int.sub_self] at i1
  obtain ⟨r2, hr2, i2⟩ := FloatKey.is_mul i1 is_giga (by decide) (by rw [Int.zero_mul]; decide)
  rw [Int.zero_mul] at i2
  have h3 := FloatKey.is_toInt i2 (by decide)
  have hq1 : floatBits .quo .f64 (floatOfInt .f64 ((0 : Nat) : Int)) 4741671816366391296 = some 0 := by decide +kernel
  have hsec := FloatKey.is_ofInt ((A : Int) % 60) (by omega)
  obtain ⟨q, hq, iq⟩ := FloatKey.is_add hsec is_zero (by omega)
  rw [Int.add_zero] at iq
  have hcv := FloatKey.is_toInt hv (by show s.natAbs / 1 ≤ _; omega)
  refine ⟨q, ⟨⟨_, r1, r2, 0, fun w => floor_any _ sg m p hr w, hr1, hr2, by rw [h3]; rfl, hq1, hq⟩, ?_, ⟨by decide, by omega, by omega, by omega, hd⟩, by decide, by omega, by omega⟩, iq⟩
  rw [hcv]
  congr 1
  show (if s < 0 then -((s.natAbs / 1 : Nat) : Int) else ((s.natAbs / 1 : Nat) : Int)) = s
  rw [Nat.div_one]
  split <;> omega

set_option maxRecDepth 100000 in
set_option maxHeartbeats 4000000 in
/-- The law's walk, where the calls' answers and the divisions' results bear names. -/
theorem law_civil (s : Int) (h1 : -17592186044416 ≤ s) (h2 : s ≤ 17592186044416) (Q R D0 R0 W0 Wd Y M Dd Z Yd : Int) (q : Nat) (hq : s.tdiv 86400 = Q) (hr : s.tmod 86400 = R) (hw : (D0 + 4).tmod 7 = W0)
    (bD : -1000000000 ≤ D0) (cD : D0 ≤ 1000000000) (bM : -20 ≤ M) (cM : M ≤ 20) (bZ : D0 - Z = Yd) (bYd : -500 ≤ Yd) (cYd : Yd ≤ 600) (bR0 : 0 ≤ R0) (cR0 : R0 < 86400) (bWd : 0 ≤ Wd) (cWd : Wd < 7)
    (hcase : (0 ≤ R ∧ D0 = Q ∧ R0 = R) ∨ (R < 0 ∧ -86400 < R ∧ Q - 1 = D0 ∧ R + 86400 = R0)) (hcw : (0 ≤ W0 ∧ Wd = W0) ∨ (W0 < 0 ∧ -7 < W0 ∧ W0 + 7 = Wd))
    (hgm : ∀ w, Calls Tryz.prog 49 #[.float .f64 (floatOfInt .f64 s)] w fun e w' => e = .returned (.tuple #[.int .i64 Y, .int .i64 (M - 1), .int .i64 Dd, .int .i64 (R0 / 3600), .int .i64 (R0 % 3600 / 60), .float .f64 q, .int .i64 Wd, .int .i64 Yd, .bool true]) ∧ Below w.heap.size w w')
    (hci : ∀ w, Calls Tryz.prog 50 #[.int .i64 D0] w fun e w' => e = .returned (.tuple #[.int .i64 Y, .int .i64 M, .int .i64 Dd]) ∧ w = w')
    (hdf : ∀ w, Calls Tryz.prog 51 #[.int .i64 Y, .int .i64 1, .int .i64 1] w fun e w' => e = .returned (.int .i64 Z) ∧ w = w')
    (heq : (FloatKind.f64.format.order q (floatOfInt .f64 (R0 % 60)) == some .eq) = true) (w : World) :
    Calls Tryz.prog 14 #[.int .i64 s] w fun e w' => e = .returned (.bool true) ∧ Below w.heap.size w w' := by
  rcases hcase with ⟨r0, rfl, rfl⟩ | ⟨r0, r1, d0, r2⟩
  · rcases hcw with ⟨w0, rfl⟩ | ⟨w0, w1, w2⟩
    · go_enter Tryz.func14, Tryz.ntmps14
      go_wp2_with (go_at_call 49; refine (hgm _).mono ?_; rintro e w2 ⟨rfl, hb⟩)
      go_wp2_with (go_at_call 50; refine (hci _).mono ?_; rintro e w2 ⟨rfl, rfl⟩)
      go_wp2_with (go_at_call 51; refine (hdf _).mono ?_; rintro e w2 ⟨rfl, rfl⟩)
      go_wp2
      go_ret
      exact ⟨rfl, hb⟩
    · go_enter Tryz.func14, Tryz.ntmps14
      go_wp2_with (go_at_call 49; refine (hgm _).mono ?_; rintro e w2 ⟨rfl, hb⟩)
      go_wp2_with (go_at_call 50; refine (hci _).mono ?_; rintro e w2 ⟨rfl, rfl⟩)
      go_wp2_with (go_at_call 51; refine (hdf _).mono ?_; rintro e w2 ⟨rfl, rfl⟩)
      go_wp2
      go_ret
      exact ⟨rfl, hb⟩
  · rcases hcw with ⟨w0, rfl⟩ | ⟨w0, w1, w2⟩
    · go_enter Tryz.func14, Tryz.ntmps14
      go_wp2_with (go_at_call 49; refine (hgm _).mono ?_; rintro e w2 ⟨rfl, hb⟩)
      go_wp2_with (go_at_call 50; refine (hci _).mono ?_; rintro e w2 ⟨rfl, rfl⟩)
      go_wp2_with (go_at_call 51; refine (hdf _).mono ?_; rintro e w2 ⟨rfl, rfl⟩)
      go_wp2
      go_ret
      exact ⟨rfl, hb⟩
    · go_enter Tryz.func14, Tryz.ntmps14
      go_wp2_with (go_at_call 49; refine (hgm _).mono ?_; rintro e w2 ⟨rfl, hb⟩)
      go_wp2_with (go_at_call 50; refine (hci _).mono ?_; rintro e w2 ⟨rfl, rfl⟩)
      go_wp2_with (go_at_call 51; refine (hdf _).mono ?_; rintro e w2 ⟨rfl, rfl⟩)
      go_wp2
      go_ret
      exact ⟨rfl, hb⟩
set_option maxHeartbeats 1000000 in
theorem walk_FnGmtimeCivilModel (s : Int) (_ws : (Lit.int .i64 s).wf = true) (w : World) :
    Calls Tryz.prog 14 #[.int .i64 s] w fun e w' => e = .returned (.bool true) ∧ Below w.heap.size w w' := by
  by_cases c1 : s < -17592186044416
  · go_enter Tryz.func14, Tryz.ntmps14
    go_wp2
    go_ret
    exact ⟨rfl, by go_grown⟩
  by_cases c2 : 17592186044416 < s
  · go_enter Tryz.func14, Tryz.ntmps14
    go_wp2
    go_ret
    exact ⟨rfl, by go_grown⟩
  obtain ⟨A, hA⟩ : ∃ A : Nat, (A : Int) = s + 9223372028741760000 := ⟨(s + 9223372028741760000).toNat, by omega⟩
  obtain ⟨d, hd⟩ : ∃ d, A / 86400 = d := ⟨_, rfl⟩
  obtain ⟨q, hG, hq⟩ := gmOk_int s A d (by omega) (by omega) hA hd
  obtain ⟨D0, hD⟩ : ∃ D0, s / 86400 = D0 := ⟨_, rfl⟩
  obtain ⟨R0, hR⟩ : ∃ R0, s % 86400 = R0 := ⟨_, rfl⟩
  obtain ⟨Wd, hW⟩ : ∃ Wd, (D0 + 4) % 7 = Wd := ⟨_, rfl⟩
  have hdD : (d : Int) = D0 + 106751991073400 := by omega
  obtain ⟨l1, l2, l3, l4⟩ := civ_link D0 d hdD (by omega)
  have bm := monZ_bd d
  have by' := ydZ_bd d
  have x1 : (A : Int) % 86400 = R0 := by omega
  have x2 : (A : Int) % 3600 = R0 % 3600 := by omega
  have x3 : ((d : Int) + 3) % 7 = Wd := by omega
  have x4 : (A : Int) % 60 = R0 % 60 := by omega
  rw [x4] at hq
  refine law_civil s (by omega) (by omega) (s.tdiv 86400) (s.tmod 86400) D0 R0 ((D0 + 4).tmod 7) Wd (civY D0) (civM D0) (civD D0) (dfcZ (civY D0)) (ydZ d - 1) q rfl rfl rfl
    (by omega) (by omega) (by omega) (by omega) l4 (by omega) (by omega) (by omega) (by omega) (by omega) (by omega) ?_ ?_ ?_ ?_ ?_ ?_ w
  · rw [Int.tdiv_eq_ediv, Int.tmod_eq_emod, show Int.sign 86400 = 1 from rfl, show Int.natAbs 86400 = 86400 from rfl]
    split <;> omega
  · rw [Int.tmod_eq_emod, show Int.natAbs 7 = 7 from rfl]
    split <;> omega
  · intro w
    refine (zzgmtime_any _ s 0 A d q hG w).mono ?_
    rintro e w' ⟨rfl, hb⟩
    refine ⟨?_, hb⟩
    rw [x1, x2, x3, l1, l2, l3]
  · intro w
    exact civil_any D0 (by omega) (by omega) w
  · intro w
    have y := civ_bd D0
    exact dfc_any (civY D0) (by unfold civY eraZ; split <;> omega) (by unfold civY eraZ; split <;> omega) w
  · rw [FloatKey.ord_eq hq (FloatKey.is_ofInt (R0 % 60) (by omega))]
    exact decide_eq_true rfl
end Go.Proofs.YtclopknkophfkaaGreatDoor
