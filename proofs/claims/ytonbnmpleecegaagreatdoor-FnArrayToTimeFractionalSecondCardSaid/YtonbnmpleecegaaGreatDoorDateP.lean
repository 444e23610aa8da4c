/- Plain law of gotime.Date: absolute days and the era algorithm agree at every year and month; whole units carried by floor division. No program in sight. -/
import Derived.KernelRfl
namespace Go.DateLaw

/-- Days since 1970-01-01 of the first of month m (1 to 12) of year y, by the era algorithm. -/
def dfcM (y m : Int) : Int :=
  (if m ≤ 2 then y - 1 else y) / 400 * 146097 + ((if m ≤ 2 then y - 1 else y) % 400 * 365 + (if m ≤ 2 then y - 1 else y) % 400 / 4 - (if m ≤ 2 then y - 1 else y) % 400 / 100 + (153 * (if m ≤ 2 then m + 9 else m - 3) + 2) / 5) - 719468
theorem year_part (Y : Int) : 146097 * ((Y + 292277022400) / 100) / 4 + 1461 * ((Y + 292277022400) % 100) / 4 = Y / 400 * 146097 + (Y % 400 * 365 + Y % 400 / 4 - Y % 400 / 100) + 106751990353932 := by
  obtain ⟨e, he⟩ : ∃ e, Y / 400 = e := ⟨_, rfl⟩
  obtain ⟨r, hr⟩ : ∃ r, Y % 400 = r := ⟨_, rfl⟩
  have hY : Y = 400 * e + r := by omega
  have hr0 : 0 ≤ r := by omega
  have hr1 : r < 400 := by omega
  obtain ⟨c, hc⟩ : ∃ c, r / 100 = c := ⟨_, rfl⟩
  obtain ⟨q, hq⟩ : ∃ q, r % 100 = q := ⟨_, rfl⟩
  have hrr : r = 100 * c + q := by omega
  have hc0 : 0 ≤ c := by omega
  have hc1 : c ≤ 3 := by omega
  have hq0 : 0 ≤ q := by omega
  have hq1 : q < 100 := by omega
  have h1 : (Y + 292277022400) / 100 = 4 * e + c + 2922770224 := by omega
  have h2 : (Y + 292277022400) % 100 = q := by omega
  rw [h1, h2, he, hr, hc, hrr]
  have e1 : 146097 * (4 * e + c + 2922770224) / 4 = 146097 * e + 36524 * c + 106751990353932 := by omega
  have e2 : 1461 * q / 4 = 365 * q + q / 4 := by omega
  have e3 : (100 * c + q) / 4 = 25 * c + q / 4 := by omega
  rw [e1, e2, e3]
  omega
theorem month_part (m : Int) (h1 : 1 ≤ m) (h2 : m ≤ 12) : (979 * (if m < 3 then m + 12 else m) - 2919) / 32 = (153 * (if m ≤ 2 then m + 9 else m - 3) + 2) / 5 := by
  rcases (by omega : m = 1 ∨ m = 2 ∨ m = 3 ∨ m = 4 ∨ m = 5 ∨ m = 6 ∨ m = 7 ∨ m = 8 ∨ m = 9 ∨ m = 10 ∨ m = 11 ∨ m = 12) with rfl | rfl | rfl | rfl | rfl | rfl | rfl | rfl | rfl | rfl | rfl | rfl <;> decide
/-- The absolute day of the first of a month. -/
theorem abs_day (y m : Int) (h1 : 1 ≤ m) (h2 : m ≤ 12) (Y A : Int) (hY : (if m < 3 then y - 1 else y) = Y) (hA : (if m < 3 then m + 12 else m) = A) :
    146097 * ((Y + 292277022400) / 100) / 4 + 1461 * ((Y + 292277022400) % 100) / 4 + (979 * A - 2919) / 32 = dfcM y m + 106751991073400 := by
  have e1 := year_part Y
  have e2 := month_part m h1 h2
  rw [hA] at e2
  unfold dfcM
  have hc : (if m ≤ 2 then y - 1 else y) = Y := by
    rw [← hY]
    by_cases c : m ≤ 2
    · rw [if_pos c, if_pos (by omega)]
    · rw [if_neg c, if_neg (by omega)]
  rw [hc, ← e2]
  omega
end Go.DateLaw
