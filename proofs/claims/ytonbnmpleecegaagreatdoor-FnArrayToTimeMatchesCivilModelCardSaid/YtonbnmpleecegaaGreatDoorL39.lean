/- Walks of the day-count model of n001_39, of its row of fields and of the copies. -/
import Derived.Test.YtonbnmpleecegaaGreatDoorDateA
import Derived.Test.YtonbnmpleecegaaGreatDoorIntC
namespace Go.Proofs.YtonbnmpleecegaaGreatDoor
open Go.RowKit Go.Deep

theorem fdiv12 (a : Int) (h1 : -4000000000000 ≤ a) (h2 : a ≤ 4000000000000) (w : World) :
    Calls Tryz.prog 24 #[.int .i64 a, .int .i64 12] w fun e w' => e = .returned (.int .i64 (a / 12)) ∧ w = w' := by
  obtain ⟨Q, hQ⟩ : ∃ Q, a / 12 = Q := ⟨_, rfl⟩
  rw [hQ]
  by_cases c : a < 0
  · obtain ⟨q, hq⟩ : ∃ q, a.tdiv 12 = q := ⟨_, rfl⟩
    obtain ⟨r, hr⟩ : ∃ r, a.tmod 12 = r := ⟨_, rfl⟩
    have hf : (r = 0 ∧ q = Q) ∨ (r < 0 ∧ -12 < r ∧ q - 1 = Q) := by
      rw [← hq, ← hr, ← hQ, Int.tdiv_eq_ediv, Int.tmod_eq_emod, show Int.sign 12 = 1 from rfl, show Int.natAbs 12 = 12 from rfl]
      split <;> omega
    have bq : -4000000000000 ≤ q ∧ q ≤ 4000000000000 := by omega
    have bq1 := bq.1
    have bq2 := bq.2
    clear bq
    rcases hf with ⟨rfl, rfl⟩ | ⟨r1, r2, hf⟩
    · clear hQ
      go_enter Tryz.func24, Tryz.ntmps24
      go_wp2
      go_ret
      exact ⟨rfl, rfl⟩
    · subst hf
      have t1 : (r == 0) = false := by simp; omega
      have t2 : (r != 0) = true := by simp; omega
      clear hQ
      go_enter Tryz.func24, Tryz.ntmps24
      go_wp2
      go_ret
      exact ⟨rfl, rfl⟩
  · have c0 : 0 ≤ a := by omega
    by_cases z : a % 12 = 0
    · have t1 : (a % 12 == 0) = true := by simpa using z
      have t2 : (a % 12 != 0) = false := by simp; omega
      subst hQ
      clear z
      go_enter Tryz.func24, Tryz.ntmps24
      go_wp2
      go_ret
      exact ⟨rfl, rfl⟩
    · have t1 : (a % 12 == 0) = false := by simp; omega
      have t2 : (a % 12 != 0) = true := by simp; omega
      subst hQ
      clear z
      go_enter Tryz.func24, Tryz.ntmps24
      go_wp2
      go_ret
      exact ⟨rfl, rfl⟩
theorem fdiv400 (a : Int) (h1 : -4000000000000 ≤ a) (h2 : a ≤ 4000000000000) (w : World) :
    Calls Tryz.prog 24 #[.int .i64 a, .int .i64 400] w fun e w' => e = .returned (.int .i64 (a / 400)) ∧ w = w' := by
  obtain ⟨Q, hQ⟩ : ∃ Q, a / 400 = Q := ⟨_, rfl⟩
  rw [hQ]
  by_cases c : a < 0
  · obtain ⟨q, hq⟩ : ∃ q, a.tdiv 400 = q := ⟨_, rfl⟩
    obtain ⟨r, hr⟩ : ∃ r, a.tmod 400 = r := ⟨_, rfl⟩
    have hf : (r = 0 ∧ q = Q) ∨ (r < 0 ∧ -400 < r ∧ q - 1 = Q) := by
      rw [← hq, ← hr, ← hQ, Int.tdiv_eq_ediv, Int.tmod_eq_emod, show Int.sign 400 = 1 from rfl, show Int.natAbs 400 = 400 from rfl]
      split <;> omega
    have bq : -4000000000000 ≤ q ∧ q ≤ 4000000000000 := by omega
    have bq1 := bq.1
    have bq2 := bq.2
    clear bq
    rcases hf with ⟨rfl, rfl⟩ | ⟨r1, r2, hf⟩
    · clear hQ
      go_enter Tryz.func24, Tryz.ntmps24
      go_wp2
      go_ret
      exact ⟨rfl, rfl⟩
    · subst hf
      have t1 : (r == 0) = false := by simp; omega
      have t2 : (r != 0) = true := by simp; omega
      clear hQ
      go_enter Tryz.func24, Tryz.ntmps24
      go_wp2
      go_ret
      exact ⟨rfl, rfl⟩
  · have c0 : 0 ≤ a := by omega
    by_cases z : a % 400 = 0
    · have t1 : (a % 400 == 0) = true := by simpa using z
      have t2 : (a % 400 != 0) = false := by simp; omega
      subst hQ
      clear z
      go_enter Tryz.func24, Tryz.ntmps24
      go_wp2
      go_ret
      exact ⟨rfl, rfl⟩
    · have t1 : (a % 400 == 0) = false := by simp; omega
      have t2 : (a % 400 != 0) = true := by simp; omega
      subst hQ
      clear z
      go_enter Tryz.func24, Tryz.ntmps24
      go_wp2
      go_ret
      exact ⟨rfl, rfl⟩
theorem dfc_any (y m : Int) (y1 : -10000000 ≤ y) (y2 : y ≤ 10000000) (m1 : 1 ≤ m) (m2 : m ≤ 12) (w : World) :
    Calls Tryz.prog 25 #[.int .i64 y, .int .i64 m, .int .i64 1] w fun e w' => e = .returned (.int .i64 (DateLaw.dfcM y m)) ∧ w = w' := by
  obtain ⟨Y, hY⟩ : ∃ Y, (if m ≤ 2 then y - 1 else y) = Y := ⟨_, rfl⟩
  obtain ⟨P, hP⟩ : ∃ P, (if m ≤ 2 then m + 9 else m - 3) = P := ⟨_, rfl⟩
  obtain ⟨E, hE⟩ : ∃ E, Y / 400 = E := ⟨_, rfl⟩
  obtain ⟨G, hG⟩ : ∃ G, Y - E * 400 = G := ⟨_, rfl⟩
  have hR : DateLaw.dfcM y m = E * 146097 + (G * 365 + G / 4 - G / 100 + (153 * P + 2) / 5) - 719468 := by
    unfold DateLaw.dfcM
    rw [hY, hP, hE, show Y % 400 = G from by omega]
  rw [hR]
  have bY : -10000001 ≤ Y ∧ Y ≤ 10000000 := by rw [← hY]; split <;> omega
  have bP : 0 ≤ P ∧ P ≤ 11 := by rw [← hP]; split <;> omega
  have bY1 := bY.1
  have bY2 := bY.2
  have bP1 := bP.1
  have bP2 := bP.2
  have bG1 : 0 ≤ G := by omega
  have bG2 : G < 400 := by omega
  have bE1 : -100000 ≤ E := by omega
  have bE2 : E ≤ 100000 := by omega
  have hfd : ∀ w, Calls Tryz.prog 24 #[.int .i64 Y, .int .i64 400] w fun e w' => e = .returned (.int .i64 E) ∧ w = w' := fun w => by
    have := fdiv400 Y (by omega) (by omega) w
    rwa [hE] at this
  have HFD := Lib.hid hfd
  clear hE hR bY bP hfd
  by_cases c : m ≤ 2
  · rw [if_pos c] at hY hP
    subst hY
    go_enter Tryz.func25, Tryz.ntmps25
    go_wp2_with fail
    with_reducible refine (HFD.out _).mono ?_
    rintro e w' ⟨rfl, rfl⟩
    go_wp2
    go_ret
    exact ⟨ret_intE (by omega), rfl⟩
  · rw [if_neg c] at hY hP
    subst hY
    go_enter Tryz.func25, Tryz.ntmps25
    go_wp2_with fail
    with_reducible refine (HFD.out _).mono ?_
    rintro e w' ⟨rfl, rfl⟩
    go_wp2
    go_ret
    exact ⟨ret_intE (by omega), rfl⟩
theorem getD_out (zs : List Int) (n i : Nat) (hn : zs.length = n) (h : ¬ i < n) : zs.getD i 0 = 0 := by
  rw [List.getD_eq_getElem?_getD, List.getElem?_eq_none (by omega)]; rfl
theorem field_any (zs : List Int) (n : Nat) (hn : zs.length = n) (v : Value) (i : Nat) (w : World) (hv : Cells.At w v (IntF zs) n) (z : Int) (hz : zs.getD i 0 = z) :
    Calls Tryz.prog 23 #[v, .int .i64 i] w fun e w' => e = .returned (.int .i64 z) ∧ w = w' := by
  obtain ⟨a, cap, rfl, hcc⟩ := hv
  by_cases hlt : i < n
  · obtain ⟨b, off, rfl, hbl, hcell⟩ := hcc (by omega)
    have hcx : w.cell? ⟨b, off + i, none⟩ = some (.int .i64 z) := by rw [← hz]; exact hcell i hlt
    clear hcell hcc hz hn
    go_enter Tryz.func23, Tryz.ntmps23
    go_wp2
    go_ret
    exact ⟨rfl, rfl⟩
  · have h0 := getD_out zs n i hn hlt
    obtain rfl : z = 0 := by omega
    clear h0 hcc hz hn
    go_enter Tryz.func23, Tryz.ntmps23
    go_wp2
    go_ret
    exact ⟨rfl, rfl⟩
set_option maxRecDepth 100000 in
set_option maxHeartbeats 1000000 in
theorem model_sec (zs : List Int) (n : Nat) (hn : zs.length = n) (v : Value) (w : World) (hv : Cells.At w v (IntF zs) n) (f0 f1 f2 f3 f4 f5 : Int) (h0 : zs.getD 0 0 = f0) (h1 : zs.getD 1 0 = f1) (h2 : zs.getD 2 0 = f2) (h3 : zs.getD 3 0 = f3) (h4 : zs.getD 4 0 = f4) (h5 : zs.getD 5 0 = f5) (b5 : -2000000 ≤ f5 ∧ f5 ≤ 2000000)
    (b0 : -2000000 ≤ f0 ∧ f0 ≤ 2000000) (b1 : -2000000 ≤ f1 ∧ f1 ≤ 2000000) (b2 : -2000000 ≤ f2 ∧ f2 ≤ 2000000) (b3 : -2000000 ≤ f3 ∧ f3 ≤ 2000000) (b4 : -2000000 ≤ f4 ∧ f4 ≤ 2000000) :
    Calls Tryz.prog 10 #[v, .bool true] w fun e w' => e = .returned (.int .i64 (unixZ f0 f1 f2 f3 f4 f5)) ∧ w = w' := by
  obtain ⟨Q, hQ⟩ : ∃ Q, f1 / 12 = Q := ⟨_, rfl⟩
  obtain ⟨D, hD⟩ : ∃ D, DateLaw.dfcM (f0 + Q) (f1 - Q * 12 + 1) = D := ⟨_, rfl⟩
  have hR : unixZ f0 f1 f2 f3 f4 f5 = (D + f2 - 1) * 86400 + f3 * 3600 + f4 * 60 + f5 := by
    unfold unixZ
    rw [hQ, show f1 % 12 = f1 - Q * 12 from by omega, hD]
  rw [hR]
  have bD := dfcM_bd (f0 + Q) (f1 - Q * 12 + 1) (by omega) (by omega) (by omega) (by omega)
  rw [hD] at bD
  have bD1 := bD.1
  have bD2 := bD.2
  have bQ1 : -200000 ≤ Q := by omega
  have bQ2 : Q ≤ 200000 := by omega
  have bM1 : 0 ≤ f1 - Q * 12 := by omega
  have bM2 : f1 - Q * 12 ≤ 11 := by omega
  have F0 := Lib.hid fun w (hv : Cells.At w v (IntF zs) n) => show Calls Tryz.prog 23 #[v, .int .i64 0] w fun e w' => e = .returned (.int .i64 f0) ∧ w = w' from field_any zs n hn v 0 w hv f0 h0
  have F1 := Lib.hid fun w (hv : Cells.At w v (IntF zs) n) => show Calls Tryz.prog 23 #[v, .int .i64 1] w fun e w' => e = .returned (.int .i64 f1) ∧ w = w' from field_any zs n hn v 1 w hv f1 h1
  have F2 := Lib.hid fun w (hv : Cells.At w v (IntF zs) n) => show Calls Tryz.prog 23 #[v, .int .i64 2] w fun e w' => e = .returned (.int .i64 f2) ∧ w = w' from field_any zs n hn v 2 w hv f2 h2
  have F3 := Lib.hid fun w (hv : Cells.At w v (IntF zs) n) => show Calls Tryz.prog 23 #[v, .int .i64 3] w fun e w' => e = .returned (.int .i64 f3) ∧ w = w' from field_any zs n hn v 3 w hv f3 h3
  have F4 := Lib.hid fun w (hv : Cells.At w v (IntF zs) n) => show Calls Tryz.prog 23 #[v, .int .i64 4] w fun e w' => e = .returned (.int .i64 f4) ∧ w = w' from field_any zs n hn v 4 w hv f4 h4
  have F5 := Lib.hid fun w (hv : Cells.At w v (IntF zs) n) => show Calls Tryz.prog 23 #[v, .int .i64 5] w fun e w' => e = .returned (.int .i64 f5) ∧ w = w' from field_any zs n hn v 5 w hv f5 h5
  have G1 := Lib.hid fun w => (hQ ▸ fdiv12 f1 (by omega) (by omega) w : Calls Tryz.prog 24 #[.int .i64 f1, .int .i64 12] w fun e w' => e = .returned (.int .i64 Q) ∧ w = w')
  have G2 := Lib.hid fun w => (hD ▸ dfc_any (f0 + Q) (f1 - Q * 12 + 1) (by omega) (by omega) (by omega) (by omega) w : Calls Tryz.prog 25 #[.int .i64 (f0 + Q), .int .i64 (f1 - Q * 12 + 1), .int .i64 1] w fun e w' => e = .returned (.int .i64 D) ∧ w = w')
  have HV := Lib.hid hv
  obtain ⟨b01, b02⟩ := b0
  obtain ⟨b11, b12⟩ := b1
  obtain ⟨b21, b22⟩ := b2
  obtain ⟨b31, b32⟩ := b3
  obtain ⟨b41, b42⟩ := b4
  obtain ⟨b51, b52⟩ := b5
  clear hQ hD hR bD hv h0 h1 h2 h3 h4 h5 hn
  go_enter Tryz.func10, Tryz.ntmps10
  go_wp2_with fail
  with_reducible refine (F0.out _ HV.out).mono ?_
  rintro e w' ⟨rfl, rfl⟩
  go_wp2_with fail
  with_reducible refine (F1.out _ HV.out).mono ?_
  rintro e w' ⟨rfl, rfl⟩
  go_wp2_with fail
  with_reducible refine (F2.out _ HV.out).mono ?_
  rintro e w' ⟨rfl, rfl⟩
  go_wp2_with fail
  with_reducible refine (F3.out _ HV.out).mono ?_
  rintro e w' ⟨rfl, rfl⟩
  go_wp2_with fail
  with_reducible refine (F4.out _ HV.out).mono ?_
  rintro e w' ⟨rfl, rfl⟩
  go_wp2_with fail
  with_reducible refine (F5.out _ HV.out).mono ?_
  rintro e w' ⟨rfl, rfl⟩
  go_wp2_with fail
  with_reducible refine (G1.out _).mono ?_
  rintro e w' ⟨rfl, rfl⟩
  go_wp2_with fail
  with_reducible refine (G2.out _).mono ?_
  rintro e w' ⟨rfl, rfl⟩
  go_wp2
  go_ret
  exact ⟨ret_intE (by omega), rfl⟩
set_option maxRecDepth 100000 in
set_option maxHeartbeats 1000000 in
theorem model_min (zs : List Int) (n : Nat) (hn : zs.length = n) (v : Value) (w : World) (hv : Cells.At w v (IntF zs) n) (f0 f1 f2 f3 f4 : Int) (h0 : zs.getD 0 0 = f0) (h1 : zs.getD 1 0 = f1) (h2 : zs.getD 2 0 = f2) (h3 : zs.getD 3 0 = f3) (h4 : zs.getD 4 0 = f4)
    (b0 : -2000000 ≤ f0 ∧ f0 ≤ 2000000) (b1 : -2000000 ≤ f1 ∧ f1 ≤ 2000000) (b2 : -2000000 ≤ f2 ∧ f2 ≤ 2000000) (b3 : -2000000 ≤ f3 ∧ f3 ≤ 2000000) (b4 : -2000000 ≤ f4 ∧ f4 ≤ 2000000) :
    Calls Tryz.prog 10 #[v, .bool false] w fun e w' => e = .returned (.int .i64 (unixZ f0 f1 f2 f3 f4 0)) ∧ w = w' := by
  obtain ⟨Q, hQ⟩ : ∃ Q, f1 / 12 = Q := ⟨_, rfl⟩
  obtain ⟨D, hD⟩ : ∃ D, DateLaw.dfcM (f0 + Q) (f1 - Q * 12 + 1) = D := ⟨_, rfl⟩
  have hR : unixZ f0 f1 f2 f3 f4 0 = (D + f2 - 1) * 86400 + f3 * 3600 + f4 * 60 + 0 := by
    unfold unixZ
    rw [hQ, show f1 % 12 = f1 - Q * 12 from by omega, hD]
  rw [hR]
  have bD := dfcM_bd (f0 + Q) (f1 - Q * 12 + 1) (by omega) (by omega) (by omega) (by omega)
  rw [hD] at bD
  have bD1 := bD.1
  have bD2 := bD.2
  have bQ1 : -200000 ≤ Q := by omega
  have bQ2 : Q ≤ 200000 := by omega
  have bM1 : 0 ≤ f1 - Q * 12 := by omega
  have bM2 : f1 - Q * 12 ≤ 11 := by omega
  have F0 := Lib.hid fun w (hv : Cells.At w v (IntF zs) n) => show Calls Tryz.prog 23 #[v, .int .i64 0] w fun e w' => e = .returned (.int .i64 f0) ∧ w = w' from field_any zs n hn v 0 w hv f0 h0
  have F1 := Lib.hid fun w (hv : Cells.At w v (IntF zs) n) => show Calls Tryz.prog 23 #[v, .int .i64 1] w fun e w' => e = .returned (.int .i64 f1) ∧ w = w' from field_any zs n hn v 1 w hv f1 h1
  have F2 := Lib.hid fun w (hv : Cells.At w v (IntF zs) n) => show Calls Tryz.prog 23 #[v, .int .i64 2] w fun e w' => e = .returned (.int .i64 f2) ∧ w = w' from field_any zs n hn v 2 w hv f2 h2
  have F3 := Lib.hid fun w (hv : Cells.At w v (IntF zs) n) => show Calls Tryz.prog 23 #[v, .int .i64 3] w fun e w' => e = .returned (.int .i64 f3) ∧ w = w' from field_any zs n hn v 3 w hv f3 h3
  have F4 := Lib.hid fun w (hv : Cells.At w v (IntF zs) n) => show Calls Tryz.prog 23 #[v, .int .i64 4] w fun e w' => e = .returned (.int .i64 f4) ∧ w = w' from field_any zs n hn v 4 w hv f4 h4
  have G1 := Lib.hid fun w => (hQ ▸ fdiv12 f1 (by omega) (by omega) w : Calls Tryz.prog 24 #[.int .i64 f1, .int .i64 12] w fun e w' => e = .returned (.int .i64 Q) ∧ w = w')
  have G2 := Lib.hid fun w => (hD ▸ dfc_any (f0 + Q) (f1 - Q * 12 + 1) (by omega) (by omega) (by omega) (by omega) w : Calls Tryz.prog 25 #[.int .i64 (f0 + Q), .int .i64 (f1 - Q * 12 + 1), .int .i64 1] w fun e w' => e = .returned (.int .i64 D) ∧ w = w')
  have HV := Lib.hid hv
  obtain ⟨b01, b02⟩ := b0
  obtain ⟨b11, b12⟩ := b1
  obtain ⟨b21, b22⟩ := b2
  obtain ⟨b31, b32⟩ := b3
  obtain ⟨b41, b42⟩ := b4
  clear hQ hD hR bD hv h0 h1 h2 h3 h4 hn
  go_enter Tryz.func10, Tryz.ntmps10
  go_wp2_with fail
  with_reducible refine (F0.out _ HV.out).mono ?_
  rintro e w' ⟨rfl, rfl⟩
  go_wp2_with fail
  with_reducible refine (F1.out _ HV.out).mono ?_
  rintro e w' ⟨rfl, rfl⟩
  go_wp2_with fail
  with_reducible refine (F2.out _ HV.out).mono ?_
  rintro e w' ⟨rfl, rfl⟩
  go_wp2_with fail
  with_reducible refine (F3.out _ HV.out).mono ?_
  rintro e w' ⟨rfl, rfl⟩
  go_wp2_with fail
  with_reducible refine (F4.out _ HV.out).mono ?_
  rintro e w' ⟨rfl, rfl⟩
  go_wp2_with fail
  with_reducible refine (G1.out _).mono ?_
  rintro e w' ⟨rfl, rfl⟩
  go_wp2_with fail
  with_reducible refine (G2.out _).mono ?_
  rintro e w' ⟨rfl, rfl⟩
  go_wp2
  go_ret
  exact ⟨ret_intE (by omega), rfl⟩
/-- The fields looked at lie within the bound. -/
def fieldsOk (zs : List Int) (u : Nat) : Bool := (zs.take u).all fun z => decide (-1048576 ≤ z ∧ z ≤ 1048576)
theorem fieldsOk_mem {zs : List Int} {u i : Nat} (h : fieldsOk zs u = true) (hi : i < u) : -1048576 ≤ zs.getD i 0 ∧ zs.getD i 0 ≤ 1048576 := by
  by_cases c : i < zs.length
  · have := List.all_eq_true.1 h (zs.getD i 0) (by
      rw [List.getD_eq_getElem?_getD, List.getElem?_eq_getElem c]
      exact List.mem_take_iff_getElem.2 ⟨i, by omega, rfl⟩)
    exact of_decide_eq_true this
  · rw [getD_out zs _ i rfl c]; decide
theorem fieldsOk_not {zs : List Int} {u i : Nat} (hi : i < u) (_hl : i < zs.length) (h : ¬ (-1048576 ≤ zs.getD i 0 ∧ zs.getD i 0 ≤ 1048576)) : fieldsOk zs u = false := by
  cases c : fieldsOk zs u with
  | false => rfl
  | true => exact absurd (fieldsOk_mem c hi) h
theorem fieldsOk_all {zs : List Int} {u : Nat} (h : ∀ i, i < u → i < zs.length → -1048576 ≤ zs.getD i 0 ∧ zs.getD i 0 ≤ 1048576) : fieldsOk zs u = true := by
  unfold fieldsOk
  rw [List.all_eq_true]
  intro z hz
  obtain ⟨i, hi, rfl⟩ := List.mem_take_iff_getElem.1 hz
  have := h i (by omega) (by omega)
  rw [List.getD_eq_getElem?_getD, List.getElem?_eq_getElem (by omega)] at this
  exact decide_eq_true this
set_option maxRecDepth 100000 in
set_option maxHeartbeats 1000000 in
theorem fieldsIn_any (zs : List Int) (n : Nat) (hn : zs.length = n) (u : Nat) (hu : u ≤ 6) (v : Value) (w : World) (hz : ∀ z ∈ zs, (Lit.int .i64 z).wf = true) (_hl : n ≤ 1048576) (hv : Cells.At w v (IntF zs) n) :
    Calls Tryz.prog 7 #[v, .int .i64 u, .int .i64 1048576] w fun e w' => e = .returned (.bool (fieldsOk zs u)) ∧ w = w' := by
  obtain ⟨a, cap, rfl, hcc⟩ := hv
  have HC := Lib.hid hcc
  have HZ := Lib.hid hz
  have HN := Lib.hid hn
  obtain ⟨B, hB⟩ : ∃ B, fieldsOk zs u = B := ⟨_, rfl⟩
  rw [hB]
  have HB := Lib.hid hB
  clear hcc hz hn hB
  go_enter Tryz.func7, Tryz.ntmps7
  go_wp2
  go_loop [7] (fun i => ∃ k : Nat, k ≤ u ∧ k ≤ n ∧ i = .int .i64 k ∧ Hid (∀ j, j < k → -1048576 ≤ zs.getD j 0 ∧ zs.getD j 0 ≤ 1048576)) (fun i => n - (intOf i).toNat)
  case atStart => exact ⟨0, Nat.zero_le _, Nat.zero_le _, rfl, Lib.hid fun j hj => absurd hj (Nat.not_lt_zero _)⟩
  case round =>
    obtain ⟨k, hku, hkn, rfl, HK⟩ := hrel
    by_cases hlu : k < u
    · by_cases hlt : k < n
      · obtain ⟨b, off, hx, hbl, hcell⟩ := HC.out (by omega)
        cases hx
        have hin := getD_in64 HZ.out k
        have hcx : w.cell? ⟨b, off + k, none⟩ = some (.int .i64 (zs.getD k 0)) := hcell k hlt
        clear hcell
        obtain ⟨z, hz⟩ : ∃ z, zs.getD k 0 = z := ⟨_, rfl⟩
        rw [hz] at hcx hin
        have hin1 := hin.1
        have hin2 := hin.2
        have HZ2 := Lib.hid hz
        clear hz hin
        by_cases c1 : z < -1048576
        · have HF : Hid (B = false) := Lib.hid (by rw [← HB.out]; exact fieldsOk_not hlu (by rw [HN.out]; exact hlt) (by rw [HZ2.out]; omega))
          go_wp2
          go_ret
          exact ⟨by rw [HF.out]; rfl, rfl⟩
        · by_cases c2 : 1048576 < z
          · have HF : Hid (B = false) := Lib.hid (by rw [← HB.out]; exact fieldsOk_not hlu (by rw [HN.out]; exact hlt) (by rw [HZ2.out]; omega))
            go_wp2
            go_ret
            exact ⟨by rw [HF.out]; rfl, rfl⟩
          · go_wp2
            go_round
            case rel => exact ⟨k + 1, by omega, by omega, by go_num, Lib.hid fun j hj => by
              by_cases e : j = k
              · rw [e, HZ2.out]; omega
              · exact HK.out j (by omega)⟩
            case measure => simp [intOf]; omega
      · have HF : Hid (B = true) := Lib.hid (by rw [← HB.out]; exact fieldsOk_all fun i hi hi2 => HK.out i (by have := HN.out; omega))
        go_wp2
        go_ret
        exact ⟨by rw [HF.out]; rfl, rfl⟩
    · have HF : Hid (B = true) := Lib.hid (by rw [← HB.out]; exact fieldsOk_all fun i hi hi2 => HK.out i (by omega))
      go_wp2
      go_ret
      exact ⟨by rw [HF.out]; rfl, rfl⟩
set_option maxRecDepth 100000 in
set_option maxHeartbeats 2000000 in
theorem copy_any (zs : List Int) (n : Nat) (v : Value) (hl : n ≤ 131072) (W : World) (hv : Cells.At W v (IntF zs) n) :
    Calls Tryz.prog 8 #[v] W fun e w' => (∃ v', e = .returned v' ∧ Cells.At w' v' (IntF zs) n) ∧ Below W.heap.size W w' := by
  obtain ⟨a, cap, rfl, hcc⟩ := hv
  have HC := Lib.hid hcc
  clear hcc
  have hnil := fun w a n c n' c' => Lib.run_eql_slice_nil (P := Tryz.prog) w 22 _ a n c n' c' Tryz.underlying22
  cases a with
  | none =>
    have h0 : n = 0 := by
      rcases Nat.eq_zero_or_pos n with h | h
      · exact h
      · obtain ⟨b, off, hx, _⟩ := HC.out h
        cases hx
    subst h0
    go_enter Tryz.func8, Tryz.ntmps8
    go_wp2
    go_ret
    exact ⟨⟨_, rfl, none, 0, rfl, fun h => absurd h (Nat.lt_irrefl _)⟩, Below.refl _ _⟩
  | some ad =>
    have hmk := fun w => run_make_row' (P := Tryz.prog) 22 3 (.int .i64 0) 8 Tryz.underlying22 info_intI rfl .i64 .i64 n (by omega) (by omega) w
    have hS : Hid (Below W.heap.size W (W.alloc (.cells (madeCells #[.int .i64 0] n) 3)) ∧ (W.alloc (.cells (madeCells #[.int .i64 0] n) 3)).rowIs W.heap.size 3 n (Cells.fill (IntF zs) (.int .i64 0) 0)) :=
      Lib.hid ⟨(Below.refl _ _).alloc (Nat.le_refl _) _, Cells.fill_start (World.rowIs_made W _ n _)⟩
    go_enter Tryz.func8, Tryz.ntmps8
    go_wp2
    go_loopw [4] (fun i wr => ∃ k : Nat, k ≤ n ∧ i = .int .i64 k ∧ Hid (Below W.heap.size W wr ∧ wr.rowIs W.heap.size 3 n (Cells.fill (IntF zs) (.int .i64 0) k))) (fun i _ => n - (intOf i).toNat)
    case atStart => exact ⟨0, Nat.zero_le _, rfl, hS⟩
    case round =>
      obtain ⟨k, hk, rfl, HR⟩ := hrel
      by_cases hlt : k < n
      · obtain ⟨b, off, hx, hbl, hcell⟩ := HC.out (by omega)
        cases hx
        have hcx : wr.cell? ⟨b, off + k, none⟩ = some (.int .i64 (zs.getD k 0)) := (HR.out.1.cell (p := ⟨b, off + k, none⟩) hbl).trans (hcell k hlt)
        clear hcell
        obtain ⟨z, hz⟩ : ∃ z, zs.getD k 0 = z := ⟨_, rfl⟩
        rw [hz] at hcx
        have HZ := Lib.hid hz
        clear hz
        have hco := Cells.fill_old HR.out.2 hlt (Nat.lt_irrefl _)
        have hfo := HR.out.2.frozen k
        go_wp2
        go_roundw
        case rel => exact ⟨k + 1, by omega, by go_num, Lib.hid ⟨HR.out.1.setCell (Nat.le_refl _) _, Cells.fill_set HR.out.2 _ (by unfold IntF; rw [HZ.out])⟩⟩
        case measure => simp [intOf]; omega
      · obtain rfl : k = n := by omega
        go_wp2
        go_ret
        exact ⟨⟨_, rfl, Cells.fill_at HR.out.2⟩, HR.out.1⟩
end Go.Proofs.YtonbnmpleecegaaGreatDoor
