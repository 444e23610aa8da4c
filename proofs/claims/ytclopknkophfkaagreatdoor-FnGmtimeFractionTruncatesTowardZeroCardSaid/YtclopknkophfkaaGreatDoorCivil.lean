/- Plain law: two calendars agree (the era algorithm by days and the absolute-day algorithm). No program in sight. -/
import Derived.KernelRfl
namespace Civil

def all2 (f : Nat → Bool) : Nat → Nat → Bool
  | 0, lo => f lo
  | k + 1, lo => all2 f k lo && all2 f k (Nat.add lo (Nat.pow 2 k))
theorem all2_spec {f : Nat → Bool} : ∀ {k lo : Nat}, all2 f k lo = true → ∀ i, lo ≤ i → i < lo + 2 ^ k → f i = true
  | 0, lo, h, i, h1, h2 => by
    have : i = lo := by simp at h2; omega
    subst this; exact h
  | k + 1, lo, h, i, h1, h2 => by
    simp only [all2, Bool.and_eq_true] at h
    by_cases c : i < lo + 2 ^ k
    · exact all2_spec h.1 i h1 c
    · have e : Nat.add lo (Nat.pow 2 k) = lo + 2 ^ k := rfl
      rw [e] at h
      exact all2_spec h.2 i (by omega) (by rw [Nat.pow_succ] at h2; omega)

/-- The year of the era, of a day of the era. -/
def yoe (doe : Nat) : Nat := (doe - doe / 1460 + doe / 36524 - doe / 146096) / 365
def doy (doe : Nat) : Nat := doe - (365 * yoe doe + yoe doe / 4 - yoe doe / 100)
/-- The other algorithm: the century, the year in it, the day in the year that begins on March 1. -/
def cent (a : Nat) : Nat := (4 * a + 3) / 146097
def cday (a : Nat) : Nat := (4 * a + 3) % 146097 / 4
def cyear (a : Nat) : Nat := (4 * cday a + 3) / 1461
def ayday (a : Nat) : Nat := (4 * cday a + 3) % 1461 / 4

def chkY (n : Nat) : Bool :=
  Nat.ble 146097 n ||
  (let q := Nat.div (Nat.sub (Nat.add (Nat.sub n (Nat.div n 1460)) (Nat.div n 36524)) (Nat.div n 146096)) 365
   let w := Nat.add (Nat.mul 4 n) 3
   let c := Nat.add (Nat.mul 4 (Nat.div (Nat.mod w 146097) 4)) 3
   Nat.beq (Nat.add (Nat.mul 100 (Nat.div w 146097)) (Nat.div c 1461)) q &&
   Nat.beq (Nat.add (Nat.div (Nat.mod c 1461) 4) (Nat.sub (Nat.add (Nat.mul 365 q) (Nat.div q 4)) (Nat.div q 100))) n)
theorem chkY_all : all2 chkY 18 0 = true := by kernel_rfl
theorem era_day (n : Nat) (h : n < 146097) : 100 * cent n + cyear n = yoe n ∧ ayday n + (365 * yoe n + yoe n / 4 - yoe n / 100) = n := by
  have e := all2_spec chkY_all n (Nat.zero_le _) (by omega)
  unfold chkY at e
  have hb : Nat.ble 146097 n = false := by
    cases hh : Nat.ble 146097 n
    · rfl
    · have := Nat.le_of_ble_eq_true hh; omega
  rw [hb, Bool.false_or, Bool.and_eq_true] at e
  exact ⟨Nat.eq_of_beq_eq_true e.1, Nat.eq_of_beq_eq_true e.2⟩
theorem doy_eq (n : Nat) (h : n < 146097) : doy n = ayday n := by
  have := (era_day n h).2
  unfold doy; omega
theorem ayday_lt (a : Nat) : ayday a < 366 := by unfold ayday; omega
theorem cyear_lt (a : Nat) : cyear a < 100 := by unfold cyear cday; omega
/-- Whole eras fall away. -/
theorem cent_era (n k : Nat) : cent (n + 146097 * k) = cent n + 4 * k ∧ cday (n + 146097 * k) = cday n ∧ cyear (n + 146097 * k) = cyear n ∧ ayday (n + 146097 * k) = ayday n := by
  have e : cday (n + 146097 * k) = cday n := by unfold cday; omega
  refine ⟨by unfold cent; omega, e, by unfold cyear; rw [e], by unfold ayday; rw [e]⟩

/-- The scaled multiplication gives quotient and remainder. -/
theorem mul32 (c : Nat) (h : c < 146100) : 2939745 * c / 4294967296 = c / 1461 ∧ 2939745 * c % 4294967296 / 2939745 = c % 1461 := by
  obtain ⟨q, hq⟩ : ∃ q, q = c / 1461 := ⟨_, rfl⟩
  obtain ⟨r, hr⟩ : ∃ r, r = c % 1461 := ⟨_, rfl⟩
  rw [← hq, ← hr]
  have e : 2939745 * c = 4294967296 * q + (2939745 * r + 149 * q) := by omega
  have b : 2939745 * r + 149 * q < 4294967296 := by omega
  have e1 : 2939745 * c / 4294967296 = q := by rw [e]; omega
  have e2 : 2939745 * c % 4294967296 = 2939745 * r + 149 * q := by rw [e]; omega
  refine ⟨e1, ?_⟩
  rw [e2]
  omega
/-- Month and day of a day of the March year. -/
def chkM (y : Nat) : Bool := Nat.ble 366 y || (let d := Nat.add (Nat.mul 2141 y) 197913
  let mp := Nat.div (Nat.add (Nat.mul 5 y) 2) 153
  Nat.beq (Nat.div d 65536) (Nat.add mp 3) && Nat.beq (Nat.add (Nat.add 1 (Nat.div (Nat.mod d 65536) 2141)) (Nat.div (Nat.add (Nat.mul 153 mp) 2) 5)) (Nat.add y 1))
theorem chkM_all : all2 chkM 9 0 = true := by kernel_rfl
theorem month_day (y : Nat) (h : y < 366) : (2141 * y + 197913) / 65536 = (5 * y + 2) / 153 + 3 ∧ 1 + (2141 * y + 197913) % 65536 / 2141 + (153 * ((5 * y + 2) / 153) + 2) / 5 = y + 1 := by
  have e := all2_spec chkM_all y (Nat.zero_le _) (by omega)
  unfold chkM at e
  have hb : Nat.ble 366 y = false := by
    cases hh : Nat.ble 366 y
    · rfl
    · have := Nat.le_of_ble_eq_true hh; omega
  rw [hb, Bool.false_or, Bool.and_eq_true] at e
  exact ⟨Nat.eq_of_beq_eq_true e.1, Nat.eq_of_beq_eq_true e.2⟩
theorem jan_feb (y : Nat) (h : y < 366) : (306 ≤ y ↔ 10 ≤ (5 * y + 2) / 153) ∧ (5 * y + 2) / 153 ≤ 11 := by
  refine ⟨by omega, by omega⟩
end Civil
