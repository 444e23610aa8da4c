/- Walks of the day-count model of n001_32, of its row of fields and of the copies. -/
import Derived.Test.YtonbnmpleecegaaGreatDoorDateA
import Derived.Test.YtonbnmpleecegaaGreatDoorIntC
namespace Go.Proofs.YtonbnmpleecegaaGreatDoor
open Go.RowKit Go.Deep

theorem zfdiv12 (a : Int) (h1 : -4000000000000 ≤ a) (h2 : a ≤ 4000000000000) (w : World) :
    Calls Tryz.prog 27 #[.int .i64 a, .int .i64 12] w fun e w' => e = .returned (.int .i64 (a / 12)) ∧ w = w' := by
  obtain ⟨Q, hQ⟩ : ∃ Q, a / 12 = Q := ⟨_, rfl⟩
  rw [hQ]
  by_cases c : a < 0
  · obtain ⟨q, hq⟩ : ∃ q, a.tdiv 12 = q := ⟨_, rfl⟩
    obtain ⟨r, hr⟩ : ∃ r, a.tmod 12 = r := ⟨_, rfl⟩
    have hf : (r = 0 ∧ q = Q) ∨ (r < 0 ∧ -12 < r ∧ q - 1 = Q) := by
      rw [← hq, ← hr, ← hQ, Int.tdiv_eq_ediv, Int.tmod_eq_emod, show Int.sign 12 = 1 from rfl, show Int.natAbs 12 = 12 from rfl]
      split <;> omega
    have bq : -4000000000000 ≤ q ∧ q ≤ 4000000000000 := by omega
    have bq1 := bq.1
    have bq2 := bq.2
    clear bq
    rcases hf with ⟨rfl, rfl⟩ | ⟨r1, r2, hf⟩
    · clear hQ
      go_enter Tryz.func27, Tryz.ntmps27
      go_wp2
      go_ret
      exact ⟨rfl, rfl⟩
    · subst hf
      have t1 : (r == 0) = false := by simp; omega
      have t2 : (r != 0) = true := by simp; omega
      clear hQ
      go_enter Tryz.func27, Tryz.ntmps27
      go_wp2
      go_ret
      exact ⟨rfl, rfl⟩
  · have c0 : 0 ≤ a := by omega
    by_cases z : a % 12 = 0
    · have t1 : (a % 12 == 0) = true := by simpa using z
      have t2 : (a % 12 != 0) = false := by simp; omega
      subst hQ
      clear z
      go_enter Tryz.func27, Tryz.ntmps27
      go_wp2
      go_ret
      exact ⟨rfl, rfl⟩
    · have t1 : (a % 12 == 0) = false := by simp; omega
      have t2 : (a % 12 != 0) = true := by simp; omega
      subst hQ
      clear z
      go_enter Tryz.func27, Tryz.ntmps27
      go_wp2
      go_ret
      exact ⟨rfl, rfl⟩
theorem zfmod12 (a : Int) (h1 : -4000000000000 ≤ a) (h2 : a ≤ 4000000000000) (w : World) :
    Calls Tryz.prog 28 #[.int .i64 a, .int .i64 12] w fun e w' => e = .returned (.int .i64 (a % 12)) ∧ w = w' := by
  obtain ⟨Q, hQ⟩ : ∃ Q, a / 12 = Q := ⟨_, rfl⟩
  rw [show a % 12 = a - Q * 12 from by omega]
  have G := Lib.hid fun w => (hQ ▸ zfdiv12 a h1 h2 w : Calls Tryz.prog 27 #[.int .i64 a, .int .i64 12] w fun e w' => e = .returned (.int .i64 Q) ∧ w = w')
  have b1 : -400000000000 ≤ Q := by omega
  have b2 : Q ≤ 400000000000 := by omega
  have b3 : 0 ≤ a - Q * 12 := by omega
  have b4 : a - Q * 12 < 12 := by omega
  clear hQ
  go_enter Tryz.func28, Tryz.ntmps28
  go_wp2_with fail
  with_reducible refine (G.out _).mono ?_
  rintro e w' ⟨rfl, rfl⟩
  go_wp2
  go_ret
  exact ⟨rfl, rfl⟩
theorem zdfc_any (y m : Int) (y1 : -10000000 ≤ y) (y2 : y ≤ 10000000) (m1 : 1 ≤ m) (m2 : m ≤ 12) (w : World) :
    Calls Tryz.prog 29 #[.int .i64 y, .int .i64 m, .int .i64 1] w fun e w' => e = .returned (.int .i64 (DateLaw.dfcM y m)) ∧ w = w' := by
  obtain ⟨Y, hY⟩ : ∃ Y, (if m ≤ 2 then y - 1 else y) = Y := ⟨_, rfl⟩
  obtain ⟨P, hP⟩ : ∃ P, (if m ≤ 2 then m + 9 else m - 3) = P := ⟨_, rfl⟩
  obtain ⟨E, hE⟩ : ∃ E, Y / 400 = E := ⟨_, rfl⟩
  obtain ⟨G, hG⟩ : ∃ G, Y - E * 400 = G := ⟨_, rfl⟩
  have hR : DateLaw.dfcM y m = E * 146097 + (G * 365 + G / 4 - G / 100 + (153 * P + 2) / 5) - 719468 := by
    unfold DateLaw.dfcM
    rw [hY, hP, hE, show Y % 400 = G from by omega]
  rw [hR]
  have bY : -10000001 ≤ Y ∧ Y ≤ 10000000 := by rw [← hY]; split <;> omega
  have bP : 0 ≤ P ∧ P ≤ 11 := by rw [← hP]; split <;> omega
  have bY1 := bY.1
  have bY2 := bY.2
  have bP1 := bP.1
  have bP2 := bP.2
  have bG1 : 0 ≤ G := by omega
  have bG2 : G < 400 := by omega
  have bE1 : -100000 ≤ E := by omega
  have bE2 : E ≤ 100000 := by omega
  clear hR bY bP
  by_cases c : m ≤ 2
  · rw [if_pos c] at hY hP
    subst hY
    by_cases c2 : y - 1 < 0
    · have t1 : (y - 1 - 399).tdiv 400 = E := by
        rw [← hE, Int.tdiv_eq_ediv, show Int.sign 400 = 1 from rfl]
        split <;> omega
      clear hE
      go_enter Tryz.func29, Tryz.ntmps29
      go_wp2
      go_ret
      exact ⟨ret_intE (by omega), rfl⟩
    · have c3 : 0 ≤ y - 1 := by omega
      go_enter Tryz.func29, Tryz.ntmps29
      go_wp2
      go_ret
      exact ⟨ret_intE (by omega), rfl⟩
  · rw [if_neg c] at hY hP
    subst hY
    by_cases c2 : y < 0
    · have t1 : (y - 399).tdiv 400 = E := by
        rw [← hE, Int.tdiv_eq_ediv, show Int.sign 400 = 1 from rfl]
        split <;> omega
      clear hE
      go_enter Tryz.func29, Tryz.ntmps29
      go_wp2
      go_ret
      exact ⟨ret_intE (by omega), rfl⟩
    · have c3 : 0 ≤ y := by omega
      go_enter Tryz.func29, Tryz.ntmps29
      go_wp2
      go_ret
      exact ⟨ret_intE (by omega), rfl⟩
theorem zunix_any (f0 f1 f2 f3 f4 f5 : Int)
    (b0 : -2000000 ≤ f0 ∧ f0 ≤ 2000000) (b1 : -2000000 ≤ f1 ∧ f1 ≤ 2000000) (b2 : -2000000 ≤ f2 ∧ f2 ≤ 2000000) (b3 : -2000000 ≤ f3 ∧ f3 ≤ 2000000) (b4 : -2000000 ≤ f4 ∧ f4 ≤ 2000000) (b5 : -2000000 ≤ f5 ∧ f5 ≤ 2000000) (w : World) :
    Calls Tryz.prog 14 #[.int .i64 f0, .int .i64 f1, .int .i64 f2, .int .i64 f3, .int .i64 f4, .int .i64 f5] w fun e w' => e = .returned (.int .i64 (unixZ f0 f1 f2 f3 f4 f5)) ∧ w = w' := by
  obtain ⟨Q, hQ⟩ : ∃ Q, f1 / 12 = Q := ⟨_, rfl⟩
  obtain ⟨R, hR⟩ : ∃ R, f1 % 12 = R := ⟨_, rfl⟩
  obtain ⟨D, hD⟩ : ∃ D, DateLaw.dfcM (f0 + Q) (R + 1) = D := ⟨_, rfl⟩
  have bD := dfcM_bd (f0 + Q) (R + 1) (by omega) (by omega) (by omega) (by omega)
  have hU : unixZ f0 f1 f2 f3 f4 f5 = (D + f2 - 1) * 86400 + f3 * 3600 + f4 * 60 + f5 := by
    unfold unixZ
    rw [hQ, hR, hD]
  rw [hU]
  rw [hD] at bD
  have bD1 := bD.1
  have bD2 := bD.2
  have bQ1 : -200000 ≤ Q := by omega
  have bQ2 : Q ≤ 200000 := by omega
  have bM1 : 0 ≤ R := by omega
  have bM2 : R ≤ 11 := by omega
  have G1 := Lib.hid fun w => (hQ ▸ zfdiv12 f1 (by omega) (by omega) w : Calls Tryz.prog 27 #[.int .i64 f1, .int .i64 12] w fun e w' => e = .returned (.int .i64 Q) ∧ w = w')
  have G3 := Lib.hid fun w => (hR ▸ zfmod12 f1 (by omega) (by omega) w : Calls Tryz.prog 28 #[.int .i64 f1, .int .i64 12] w fun e w' => e = .returned (.int .i64 R) ∧ w = w')
  have G2 := Lib.hid fun w => (hD ▸ zdfc_any (f0 + Q) (R + 1) (by omega) (by omega) (by omega) (by omega) w : Calls Tryz.prog 29 #[.int .i64 (f0 + Q), .int .i64 (R + 1), .int .i64 1] w fun e w' => e = .returned (.int .i64 D) ∧ w = w')
  obtain ⟨b01, b02⟩ := b0
  obtain ⟨b11, b12⟩ := b1
  obtain ⟨b21, b22⟩ := b2
  obtain ⟨b31, b32⟩ := b3
  obtain ⟨b41, b42⟩ := b4
  obtain ⟨b51, b52⟩ := b5
  clear hQ hR hD bD hU
  go_enter Tryz.func14, Tryz.ntmps14
  go_wp2_with fail
  with_reducible refine (G1.out _).mono ?_
  rintro e w' ⟨rfl, rfl⟩
  go_wp2_with fail
  with_reducible refine (G3.out _).mono ?_
  rintro e w' ⟨rfl, rfl⟩
  go_wp2_with fail
  with_reducible refine (G2.out _).mono ?_
  rintro e w' ⟨rfl, rfl⟩
  go_wp2
  go_ret
  exact ⟨rfl, rfl⟩
set_option maxRecDepth 100000 in
set_option maxHeartbeats 2000000 in
theorem zclone_any (zs : List Int) (n : Nat) (v : Value) (hl : n ≤ 131072) (W : World) (hv : Cells.At W v (IntF zs) n) :
    Calls Tryz.prog 12 #[v] W fun e w' => (∃ v', e = .returned v' ∧ Cells.At w' v' (IntF zs) n) ∧ Below W.heap.size W w' := by
  obtain ⟨a, cap, rfl, hcc⟩ := hv
  have HC := Lib.hid hcc
  clear hcc
  have hnil := fun w a n c n' c' => Lib.run_eql_slice_nil (P := Tryz.prog) w 22 _ a n c n' c' Tryz.underlying22
  cases a with
  | none =>
    have h0 : n = 0 := by
      rcases Nat.eq_zero_or_pos n with h | h
      · exact h
      · obtain ⟨b, off, hx, _⟩ := HC.out h
        cases hx
    subst h0
    go_enter Tryz.func12, Tryz.ntmps12
    go_wp2
    go_ret
    exact ⟨⟨_, rfl, none, 0, rfl, fun h => absurd h (Nat.lt_irrefl _)⟩, Below.refl _ _⟩
  | some ad =>
    have hmk := fun w => run_make_row' (P := Tryz.prog) 22 3 (.int .i64 0) 8 Tryz.underlying22 info_intI rfl .i64 .i64 n (by omega) (by omega) w
    have hS : Hid (Below W.heap.size W (W.alloc (.cells (madeCells #[.int .i64 0] n) 3)) ∧ (W.alloc (.cells (madeCells #[.int .i64 0] n) 3)).rowIs W.heap.size 3 n (Cells.fill (IntF zs) (.int .i64 0) 0)) :=
      Lib.hid ⟨(Below.refl _ _).alloc (Nat.le_refl _) _, Cells.fill_start (World.rowIs_made W _ n _)⟩
    go_enter Tryz.func12, Tryz.ntmps12
    go_wp2
    go_loopw [4] (fun i wr => ∃ k : Nat, k ≤ n ∧ i = .int .i64 k ∧ Hid (Below W.heap.size W wr ∧ wr.rowIs W.heap.size 3 n (Cells.fill (IntF zs) (.int .i64 0) k))) (fun i _ => n - (intOf i).toNat)
    case atStart => exact ⟨0, Nat.zero_le _, rfl, hS⟩
    case round =>
      obtain ⟨k, hk, rfl, HR⟩ := hrel
      by_cases hlt : k < n
      · obtain ⟨b, off, hx, hbl, hcell⟩ := HC.out (by omega)
        cases hx
        have hcx : wr.cell? ⟨b, off + k, none⟩ = some (.int .i64 (zs.getD k 0)) := (HR.out.1.cell (p := ⟨b, off + k, none⟩) hbl).trans (hcell k hlt)
        clear hcell
        obtain ⟨z, hz⟩ : ∃ z, zs.getD k 0 = z := ⟨_, rfl⟩
        rw [hz] at hcx
        have HZ := Lib.hid hz
        clear hz
        have hco := Cells.fill_old HR.out.2 hlt (Nat.lt_irrefl _)
        have hfo := HR.out.2.frozen k
        go_wp2
        go_roundw
        case rel => exact ⟨k + 1, by omega, by go_num, Lib.hid ⟨HR.out.1.setCell (Nat.le_refl _) _, Cells.fill_set HR.out.2 _ (by unfold IntF; rw [HZ.out])⟩⟩
        case measure => simp [intOf]; omega
      · obtain rfl : k = n := by omega
        go_wp2
        go_ret
        exact ⟨⟨_, rfl, Cells.fill_at HR.out.2⟩, HR.out.1⟩
end Go.Proofs.YtonbnmpleecegaaGreatDoor
