/- Contracts: the law's own civil functions. -/
import Derived.Test.YtclopknkophfkaaGreatDoorGmA
namespace Go.Proofs.YtclopknkophfkaaGreatDoor
open Go.RowKit

/-! The era algorithm, plainly. -/
def eraZ (days : Int) : Int := (days + 719468) / 146097
def doeZ (days : Int) : Int := days + 719468 - eraZ days * 146097
def yoeZ (days : Int) : Int := (doeZ days - doeZ days / 1460 + doeZ days / 36524 - doeZ days / 146096) / 365
def doyZ (days : Int) : Int := doeZ days - (365 * yoeZ days + yoeZ days / 4 - yoeZ days / 100)
def mpZ (days : Int) : Int := (5 * doyZ days + 2) / 153
def civY (days : Int) : Int := yoeZ days + eraZ days * 400 + (if 10 ≤ mpZ days then 1 else 0)
def civM (days : Int) : Int := if 10 ≤ mpZ days then mpZ days - 9 else mpZ days + 3
def civD (days : Int) : Int := doyZ days - (153 * mpZ days + 2) / 5 + 1
theorem civ_bd (days : Int) : 0 ≤ doeZ days ∧ doeZ days < 146097 ∧ 0 ≤ yoeZ days ∧ yoeZ days ≤ 400 ∧ -400 ≤ doyZ days ∧ doyZ days ≤ 1000 := by
  have h1 : 0 ≤ doeZ days ∧ doeZ days < 146097 := by unfold doeZ eraZ; omega
  have h2 : 0 ≤ yoeZ days ∧ yoeZ days ≤ 400 := by unfold yoeZ; omega
  refine ⟨h1.1, h1.2, h2.1, h2.2, ?_, ?_⟩
  · unfold doyZ yoeZ; omega
  · unfold doyZ yoeZ; omega
theorem civ_nat (days : Int) : ∃ doe : Nat, doe < 146097 ∧ doeZ days = doe ∧ yoeZ days = Civil.yoe doe ∧ doyZ days = Civil.ayday doe := by
  obtain ⟨d0, d1, _⟩ := civ_bd days
  obtain ⟨n, hn⟩ : ∃ n : Nat, doeZ days = n := ⟨(doeZ days).toNat, by omega⟩
  have hy : yoeZ days = Civil.yoe n := by unfold yoeZ Civil.yoe; rw [hn]; omega
  refine ⟨n, by omega, hn, hy, ?_⟩
  have := (Civil.era_day n (by omega)).2
  unfold doyZ
  rw [hn, hy]; omega
theorem doy_bd (days : Int) : 0 ≤ doyZ days ∧ doyZ days ≤ 365 := by
  obtain ⟨n, _, _, _, h⟩ := civ_nat days
  have := Civil.ayday_lt n
  omega
set_option maxHeartbeats 1000000 in
theorem civil_any (days : Int) (b1 : -2000000000 ≤ days) (b2 : days ≤ 2000000000) (w : World) :
    Calls Tryz.prog 50 #[.int .i64 days] w fun e w' => e = .returned (.tuple #[.int .i64 (civY days), .int .i64 (civM days), .int .i64 (civD days)]) ∧ w = w' := by
  obtain ⟨d0, d1, y0, y1, _, _⟩ := civ_bd days
  obtain ⟨a0, a1⟩ := doy_bd days
  obtain ⟨era, he⟩ : ∃ era, eraZ days = era := ⟨_, rfl⟩
  obtain ⟨D, hD⟩ : ∃ D, doeZ days = D := ⟨_, rfl⟩
  obtain ⟨Y, hY⟩ : ∃ Y, yoeZ days = Y := ⟨_, rfl⟩
  obtain ⟨Ay, hA⟩ : ∃ Ay, doyZ days = Ay := ⟨_, rfl⟩
  obtain ⟨P, hP⟩ : ∃ P, mpZ days = P := ⟨_, rfl⟩
  have e1 : (days + 719468) / 146097 = era := he
  have e2 : days + 719468 - era * 146097 = D := by rw [← he, ← hD]; rfl
  have e3 : (D - D / 1460 + D / 36524 - D / 146096) / 365 = Y := by rw [← hD, ← hY]; rfl
  have e4 : D - (365 * Y + Y / 4 - Y / 100) = Ay := by rw [← hD, ← hY, ← hA]; rfl
  have e5 : (5 * Ay + 2) / 153 = P := by rw [← hA, ← hP]; rfl
  have R1 : civY days = Y + era * 400 + (if 10 ≤ P then 1 else 0) := by unfold civY; rw [hY, he, hP]
  have R2 : civM days = if 10 ≤ P then P - 9 else P + 3 := by unfold civM; rw [hP]
  have R3 : civD days = Ay - (153 * P + 2) / 5 + 1 := by unfold civD; rw [hA, hP]
  rw [R1, R2, R3]
  rw [hD] at d0 d1
  rw [hY] at y0 y1
  rw [hA] at a0 a1
  have q1 : -20000 ≤ era := by omega
  have q2 : era ≤ 20000 := by omega
  have p0 : 0 ≤ P := by omega
  have p1 : P ≤ 11 := by omega
  clear he hD hY hA hP R1 R2 R3
  by_cases c : days + 719468 < 0
  · have t1 : (days + 719468 - 146096).tdiv 146097 = era := by
      rw [← e1, Int.tdiv_eq_ediv, show Int.sign 146097 = 1 from rfl]
      split <;> omega
    clear e1
    by_cases c2 : 10 ≤ P
    · rw [if_pos c2, if_pos c2]
      go_enter Tryz.func50, Tryz.ntmps50
      go_wp2
      go_ret3
      exact ⟨rfl, rfl⟩
    · rw [if_neg c2, if_neg c2]
      go_enter Tryz.func50, Tryz.ntmps50
      go_wp2
      go_ret3
      exact ⟨ret_int3 (by omega) (by omega) (by omega), rfl⟩
  · by_cases c2 : 10 ≤ P
    · rw [if_pos c2, if_pos c2]
      go_enter Tryz.func50, Tryz.ntmps50
      go_wp2
      go_ret3
      exact ⟨rfl, rfl⟩
    · rw [if_neg c2, if_neg c2]
      go_enter Tryz.func50, Tryz.ntmps50
      go_wp2
      go_ret3
      exact ⟨ret_int3 (by omega) (by omega) (by omega), rfl⟩
def dfcF (y : Int) : Int := y - 1 - (y - 1) / 400 * 400
def dfcZ (y : Int) : Int := (y - 1) / 400 * 146097 + (dfcF y * 365 + dfcF y / 4 - dfcF y / 100 + 306) - 719468
set_option maxHeartbeats 1000000 in
theorem dfc_any (y : Int) (b1 : -20000000 ≤ y) (b2 : y ≤ 20000000) (w : World) :
    Calls Tryz.prog 51 #[.int .i64 y, .int .i64 1, .int .i64 1] w fun e w' => e = .returned (.int .i64 (dfcZ y)) ∧ w = w' := by
  obtain ⟨E, hE⟩ : ∃ E, (y - 1) / 400 = E := ⟨_, rfl⟩
  obtain ⟨F, hF⟩ : ∃ F, y - 1 - E * 400 = F := ⟨_, rfl⟩
  have R : dfcZ y = E * 146097 + (F * 365 + F / 4 - F / 100 + 306) - 719468 := by unfold dfcZ dfcF; rw [hE, hF]
  rw [R]
  have f0 : 0 ≤ F := by omega
  have f1 : F < 400 := by omega
  have q1 : -100000 ≤ E := by omega
  have q2 : E ≤ 100000 := by omega
  clear R
  by_cases c : y - 1 < 0
  · have t1 : (y - 1 - 399).tdiv 400 = E := by
      rw [← hE, Int.tdiv_eq_ediv, show Int.sign 400 = 1 from rfl]
      split <;> omega
    clear hE
    go_enter Tryz.func51, Tryz.ntmps51
    go_wp2
    go_ret
    exact ⟨rfl, rfl⟩
  · go_enter Tryz.func51, Tryz.ntmps51
    go_wp2
    go_ret
    exact ⟨rfl, rfl⟩
end Go.Proofs.YtclopknkophfkaaGreatDoor
