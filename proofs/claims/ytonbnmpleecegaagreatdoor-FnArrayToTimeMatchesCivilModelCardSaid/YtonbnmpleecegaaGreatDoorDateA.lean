/- Contracts: gotime's norm at the bases of the calendar, dateToAbsDays, UTC, Date at UTC, Unix, Nanosecond. -/
import Derived.Test.YtonbnmpleecegaaGreatDoorFacts
import Derived.Test.YtonbnmpleecegaaGreatDoorDateP
import Derived.Laws.BitsAllLaws
import Derived.Handy
import Derived.WalkSmall
import Derived.Lib.Hide
import Derived.IntWalk
namespace Go.Proofs.YtonbnmpleecegaaGreatDoor
open Go.RowKit

theorem ret_intE {k : IntKind} {a b : Int} (h : a = b) : Ending.returned (.int k a) = .returned (.int k b) := by rw [h]
theorem ret_int2 {k l : IntKind} {a b c d : Int} (h1 : a = b) (h2 : c = d) : Ending.returned (.tuple #[.int k a, .int l c]) = .returned (.tuple #[.int k b, .int l d]) := by rw [h1, h2]
theorem top_off (n : Nat) (h : n < 9223372036854775808) : bits .and .u64 (n : Int) 9223372036854775808 = 0 := by
  have e := u64_and_nat n 9223372036854775808 (by omega) (by decide)
  have e0 : n &&& 9223372036854775808 = 0 := by
    apply Nat.eq_of_testBit_eq
    intro i
    rw [Nat.testBit_and, show (9223372036854775808 : Nat) = 2 ^ 63 from by decide, Nat.testBit_two_pow, Nat.zero_testBit]
    by_cases c : 63 = i
    · subst c; rw [Nat.testBit_lt_two_pow (by simpa using h)]; rfl
    · simp [c]
  rw [e0] at e
  exact e
theorem low30 (n : Nat) (h : n < 1073741824) : bits .and .u64 (n : Int) 1073741823 = (n : Int) := by
  have e := u64_and_nat n 1073741823 (by omega) (by decide)
  have e2 : (1073741823 : Nat) = 2 ^ 30 - 1 := by decide
  have e3 : n &&& 1073741823 = n := by rw [e2, Nat.and_two_pow_sub_one_eq_mod]; exact Nat.mod_eq_of_lt (by simpa using h)
  rw [e3] at e
  exact e
theorem norm12 (hi lo : Int) (h1 : -1099511627776 ≤ hi) (h2 : hi ≤ 1099511627776) (l1 : -1099511627776 ≤ lo) (l2 : lo ≤ 1099511627776) (w : World) :
    Calls Tryz.prog 47 #[.int .i64 hi, .int .i64 lo, .int .i64 12] w fun e w' => e = .returned (.tuple #[.int .i64 (hi + lo / 12), .int .i64 (lo % 12)]) ∧ w = w' := by
  by_cases c : lo < 0
  · have c1 : 0 ≤ -lo - 1 := by omega
    have c2 : ¬ 12 ≤ lo + ((-lo - 1) / 12 + 1) * 12 := by omega
    go_enter Tryz.func47, Tryz.ntmps47
    go_wp2
    go_ret2
    exact ⟨ret_int2 (by omega) (by omega), rfl⟩
  · by_cases c3 : 12 ≤ lo
    · have c4 : 0 ≤ lo := by omega
      go_enter Tryz.func47, Tryz.ntmps47
      go_wp2
      go_ret2
      exact ⟨ret_int2 (by omega) (by omega), rfl⟩
    · have c4 : 0 ≤ lo := by omega
      go_enter Tryz.func47, Tryz.ntmps47
      go_wp2
      go_ret2
      exact ⟨ret_int2 (by omega) (by omega), rfl⟩
theorem norm60 (hi lo : Int) (h1 : -1099511627776 ≤ hi) (h2 : hi ≤ 1099511627776) (l1 : -1099511627776 ≤ lo) (l2 : lo ≤ 1099511627776) (w : World) :
    Calls Tryz.prog 47 #[.int .i64 hi, .int .i64 lo, .int .i64 60] w fun e w' => e = .returned (.tuple #[.int .i64 (hi + lo / 60), .int .i64 (lo % 60)]) ∧ w = w' := by
  by_cases c : lo < 0
  · have c1 : 0 ≤ -lo - 1 := by omega
    have c2 : ¬ 60 ≤ lo + ((-lo - 1) / 60 + 1) * 60 := by omega
    go_enter Tryz.func47, Tryz.ntmps47
    go_wp2
    go_ret2
    exact ⟨ret_int2 (by omega) (by omega), rfl⟩
  · by_cases c3 : 60 ≤ lo
    · have c4 : 0 ≤ lo := by omega
      go_enter Tryz.func47, Tryz.ntmps47
      go_wp2
      go_ret2
      exact ⟨ret_int2 (by omega) (by omega), rfl⟩
    · have c4 : 0 ≤ lo := by omega
      go_enter Tryz.func47, Tryz.ntmps47
      go_wp2
      go_ret2
      exact ⟨ret_int2 (by omega) (by omega), rfl⟩
theorem norm24 (hi lo : Int) (h1 : -1099511627776 ≤ hi) (h2 : hi ≤ 1099511627776) (l1 : -1099511627776 ≤ lo) (l2 : lo ≤ 1099511627776) (w : World) :
    Calls Tryz.prog 47 #[.int .i64 hi, .int .i64 lo, .int .i64 24] w fun e w' => e = .returned (.tuple #[.int .i64 (hi + lo / 24), .int .i64 (lo % 24)]) ∧ w = w' := by
  by_cases c : lo < 0
  · have c1 : 0 ≤ -lo - 1 := by omega
    have c2 : ¬ 24 ≤ lo + ((-lo - 1) / 24 + 1) * 24 := by omega
    go_enter Tryz.func47, Tryz.ntmps47
    go_wp2
    go_ret2
    exact ⟨ret_int2 (by omega) (by omega), rfl⟩
  · by_cases c3 : 24 ≤ lo
    · have c4 : 0 ≤ lo := by omega
      go_enter Tryz.func47, Tryz.ntmps47
      go_wp2
      go_ret2
      exact ⟨ret_int2 (by omega) (by omega), rfl⟩
    · have c4 : 0 ≤ lo := by omega
      go_enter Tryz.func47, Tryz.ntmps47
      go_wp2
      go_ret2
      exact ⟨ret_int2 (by omega) (by omega), rfl⟩
theorem normG (hi lo : Int) (h1 : -1099511627776 ≤ hi) (h2 : hi ≤ 1099511627776) (l1 : -1099511627776 ≤ lo) (l2 : lo ≤ 1099511627776) (w : World) :
    Calls Tryz.prog 47 #[.int .i64 hi, .int .i64 lo, .int .i64 1000000000] w fun e w' => e = .returned (.tuple #[.int .i64 (hi + lo / 1000000000), .int .i64 (lo % 1000000000)]) ∧ w = w' := by
  by_cases c : lo < 0
  · have c1 : 0 ≤ -lo - 1 := by omega
    have c2 : ¬ 1000000000 ≤ lo + ((-lo - 1) / 1000000000 + 1) * 1000000000 := by omega
    go_enter Tryz.func47, Tryz.ntmps47
    go_wp2
    go_ret2
    exact ⟨ret_int2 (by omega) (by omega), rfl⟩
  · by_cases c3 : 1000000000 ≤ lo
    · have c4 : 0 ≤ lo := by omega
      go_enter Tryz.func47, Tryz.ntmps47
      go_wp2
      go_ret2
      exact ⟨ret_int2 (by omega) (by omega), rfl⟩
    · have c4 : 0 ≤ lo := by omega
      go_enter Tryz.func47, Tryz.ntmps47
      go_wp2
      go_ret2
      exact ⟨ret_int2 (by omega) (by omega), rfl⟩
theorem absDays_any (y m d : Int) (y1 : -10000000 ≤ y) (y2 : y ≤ 10000000) (m1 : 1 ≤ m) (m2 : m ≤ 12) (d1 : -1000000000 ≤ d) (d2 : d ≤ 1000000000) (w : World) :
    Calls Tryz.prog 48 #[.int .i64 y, .int .i64 m, .int .i64 d] w fun e w' => e = .returned (.int .u64 (DateLaw.dfcM y m + 106751991073400 + d - 1)) ∧ w = w' := by
  obtain ⟨Y, hY⟩ : ∃ Y, (if m < 3 then y - 1 else y) + 292277022400 = Y := ⟨_, rfl⟩
  obtain ⟨A, hA⟩ : ∃ A, (if m < 3 then m + 12 else m) = A := ⟨_, rfl⟩
  have hlaw := DateLaw.abs_day y m m1 m2 _ A rfl hA
  rw [hY] at hlaw
  obtain ⟨u, hu⟩ : ∃ u, IntKind.u64.wrap y = u := ⟨_, rfl⟩
  have hu0 : 0 ≤ u ∧ u < 18446744073709551616 := by rw [← hu, IntKind.wrap_u64]; omega
  obtain ⟨u1, hu1⟩ : ∃ u1, IntKind.u64.wrap (u - 1) = u1 := ⟨_, rfl⟩
  have hu10 : 0 ≤ u1 ∧ u1 < 18446744073709551616 := by rw [← hu1, IntKind.wrap_u64]; omega
  have b0 : 292267022000 ≤ Y ∧ Y ≤ 292287022400 := by rw [← hY]; split <;> omega
  have a0 : 3 ≤ A ∧ A ≤ 14 := by rw [← hA]; split <;> omega
  obtain ⟨X, hX⟩ : ∃ X, 1461 * (Y % 100) / 4 + (979 * A - 2919) / 32 + d - 1 = X := ⟨_, rfl⟩
  obtain ⟨v, hv⟩ : ∃ v, IntKind.u64.wrap X = v := ⟨_, rfl⟩
  have hv0 : 0 ≤ v ∧ v < 18446744073709551616 := by rw [← hv, IntKind.wrap_u64]; omega
  have hR : IntKind.u64.wrap (146097 * (Y / 100) / 4 + v) = DateLaw.dfcM y m + 106751991073400 + d - 1 := by
    rw [← hlaw, ← hv, IntKind.wrap_u64, IntKind.wrap_u64]; omega
  generalize DateLaw.dfcM y m + 106751991073400 + d - 1 = R at hR ⊢
  obtain ⟨hu0a, hu0b⟩ := hu0
  obtain ⟨hu1a, hu1b⟩ := hu10
  obtain ⟨hva, hvb⟩ := hv0
  obtain ⟨ba, bb⟩ := b0
  obtain ⟨aa, ab⟩ := a0
  by_cases c : m < 3
  · rw [if_pos c] at hA hY
    have hS : IntKind.u64.wrap (u1 + 292277022400) = Y := by rw [← hu1, ← hu, ← hY, IntKind.wrap_u64, IntKind.wrap_u64, IntKind.wrap_u64]; omega
    clear hY hlaw
    go_enter Tryz.func48, Tryz.ntmps48
    go_wp2
    go_ret
    exact ⟨rfl, rfl⟩
  · rw [if_neg c] at hA hY
    subst hA
    have hS : IntKind.u64.wrap (u + 292277022400) = Y := by rw [← hu, ← hY, IntKind.wrap_u64, IntKind.wrap_u64]; omega
    clear hY hlaw hu1
    go_enter Tryz.func48, Tryz.ntmps48
    go_wp2
    go_ret
    exact ⟨rfl, rfl⟩
/-- UTC's place. -/
theorem utc_any (w : World) : Calls Tryz.prog 20 #[] w fun e w' => e = .returned (.pointer (some ⟨w.heap.size, 0, none⟩)) ∧ Below w.heap.size w w' ∧ w'.cell? ⟨w.heap.size, 0, none⟩ = some (.bool true) ∧ w'.cell? ⟨w.heap.size, 2, none⟩ = some (.slice none 0 0) ∧ w.heap.size < w'.heap.size := by
  go_enter Tryz.func20, Tryz.ntmps20
  go_wp2
  go_ret
  exact ⟨rfl, by go_grown, by go_cell, by go_cell, by simp⟩
theorem get_any (lb : Nat) (w : World) : Calls Tryz.prog 65 #[.pointer (some ⟨lb, 0, none⟩)] w fun e w' => e = .returned (.pointer (some ⟨lb, 0, none⟩)) ∧ w = w' := by
  go_enter Tryz.func65, Tryz.ntmps65
  go_wp2
  go_ret
  exact ⟨rfl, rfl⟩
set_option maxRecDepth 100000 in
theorem lookup_utc (lb : Nat) (s : Int) (w : World) (hz : w.cell? ⟨lb, 2, none⟩ = some (.slice none 0 0)) :
    Calls Tryz.prog 49 #[.pointer (some ⟨lb, 0, none⟩), .int .i64 s] w fun e w' => (∃ t, e = .returned (.tuple #[.string t, .int .i64 0, .int .i64 (-9223372036854775808), .int .i64 9223372036854775807, .bool false])) ∧ w = w' := by
  go_enter Tryz.func49, Tryz.ntmps49
  go_wp2_with (go_at_call 65; refine (get_any _ _).mono ?_; rintro e w' ⟨rfl, rfl⟩)
  exact bodyPost_ret (v := .tuple #[.string ⟨#[85, 84, 67]⟩, .int .i64 0, .int .i64 (-9223372036854775808), .int .i64 9223372036854775807, .bool false]) (by simp [results, Tryz.results49, go_sem]) rfl ⟨⟨_, rfl⟩, rfl⟩
/-- The second since 1970 of a date. -/
def unixZ (y mo d h mi s : Int) : Int := (DateLaw.dfcM (y + mo / 12) (mo % 12 + 1) + d - 1) * 86400 + h * 3600 + mi * 60 + s
theorem dfcM_bd (y m : Int) (m1 : 1 ≤ m) (m2 : m ≤ 12) (y1 : -10000000 ≤ y) (y2 : y ≤ 10000000) : -4000000000 ≤ DateLaw.dfcM y m ∧ DateLaw.dfcM y m ≤ 4000000000 := by
  unfold DateLaw.dfcM
  constructor <;> (split <;> omega)
set_option maxRecDepth 100000 in
set_option maxHeartbeats 2000000 in
theorem date_any (y M d h mi s : Int) (ns : Nat) (lb : Nat) (y1 : -2000000 ≤ y) (y2 : y ≤ 2000000) (m1 : -2000000 ≤ M) (m2 : M ≤ 2000000) (d1 : -2000000 ≤ d) (d2 : d ≤ 2000000) (h1 : -2000000 ≤ h) (h2 : h ≤ 2000000)
    (i1 : -2000000 ≤ mi) (i2 : mi ≤ 2000000) (s1 : -2000000 ≤ s) (s2 : s ≤ 2000000) (hn : ns < 1000000000) (w : World) (hc : w.cell? ⟨lb, 0, none⟩ = some (.bool true)) (hz : w.cell? ⟨lb, 2, none⟩ = some (.slice none 0 0)) (hl : lb < w.heap.size) :
    Calls Tryz.prog 34 #[.int .i64 y, .int .i64 M, .int .i64 d, .int .i64 h, .int .i64 mi, .int .i64 s, .int .i64 ns, .pointer (some ⟨lb, 0, none⟩)] w
      fun e w' => e = .returned (.agg #[.int .u64 ns, .int .i64 (unixZ y (M - 1) d h mi s + 62135596800), .pointer none]) ∧ Below w.heap.size w w' := by
  have hb := top_off ns (by omega)
  obtain ⟨yy, hyy⟩ : ∃ yy, y + (M - 1) / 12 = yy := ⟨_, rfl⟩
  obtain ⟨mm, hmm⟩ : ∃ mm, (M - 1) % 12 = mm := ⟨_, rfl⟩
  obtain ⟨mi1, hmi1⟩ : ∃ x, mi + s / 60 = x := ⟨_, rfl⟩
  obtain ⟨ss, hss⟩ : ∃ x, s % 60 = x := ⟨_, rfl⟩
  obtain ⟨h3, hh3⟩ : ∃ x, h + mi1 / 60 = x := ⟨_, rfl⟩
  obtain ⟨mi2, hmi2⟩ : ∃ x, mi1 % 60 = x := ⟨_, rfl⟩
  obtain ⟨dd, hdd⟩ : ∃ x, d + h3 / 24 = x := ⟨_, rfl⟩
  obtain ⟨hh, hhh⟩ : ∃ x, h3 % 24 = x := ⟨_, rfl⟩
  have by1 : -3000000 ≤ yy ∧ yy ≤ 3000000 := by omega
  have bm1 : 0 ≤ mm ∧ mm ≤ 11 := by omega
  have bmi1 : -3000000 ≤ mi1 ∧ mi1 ≤ 3000000 := by omega
  have bss : 0 ≤ ss ∧ ss ≤ 59 := by omega
  have bh3 : -3000000 ≤ h3 ∧ h3 ≤ 3000000 := by omega
  have bmi2 : 0 ≤ mi2 ∧ mi2 ≤ 59 := by omega
  have bdd : -3000000 ≤ dd ∧ dd ≤ 3000000 := by omega
  have bhh : 0 ≤ hh ∧ hh ≤ 23 := by omega
  have n1 : ∀ w, Calls Tryz.prog 47 #[.int .i64 y, .int .i64 (M - 1), .int .i64 12] w fun e w' => e = .returned (.tuple #[.int .i64 yy, .int .i64 mm]) ∧ w = w' := fun w => by
    have := norm12 y (M - 1) (by omega) (by omega) (by omega) (by omega) w
    rwa [hyy, hmm] at this
  have n2 : ∀ w, Calls Tryz.prog 47 #[.int .i64 s, .int .i64 ns, .int .i64 1000000000] w fun e w' => e = .returned (.tuple #[.int .i64 s, .int .i64 ns]) ∧ w = w' := fun w => by
    have := normG s ns (by omega) (by omega) (by omega) (by omega) w
    rwa [show s + (ns : Int) / 1000000000 = s from by omega, show (ns : Int) % 1000000000 = ns from by omega] at this
  have n3 : ∀ w, Calls Tryz.prog 47 #[.int .i64 mi, .int .i64 s, .int .i64 60] w fun e w' => e = .returned (.tuple #[.int .i64 mi1, .int .i64 ss]) ∧ w = w' := fun w => by
    have := norm60 mi s (by omega) (by omega) (by omega) (by omega) w
    rwa [hmi1, hss] at this
  have n4 : ∀ w, Calls Tryz.prog 47 #[.int .i64 h, .int .i64 mi1, .int .i64 60] w fun e w' => e = .returned (.tuple #[.int .i64 h3, .int .i64 mi2]) ∧ w = w' := fun w => by
    have := norm60 h mi1 (by omega) (by omega) (by omega) (by omega) w
    rwa [hh3, hmi2] at this
  have n5 : ∀ w, Calls Tryz.prog 47 #[.int .i64 d, .int .i64 h3, .int .i64 24] w fun e w' => e = .returned (.tuple #[.int .i64 dd, .int .i64 hh]) ∧ w = w' := fun w => by
    have := norm24 d h3 (by omega) (by omega) (by omega) (by omega) w
    rwa [hdd, hhh] at this
  obtain ⟨D, hD⟩ : ∃ D, DateLaw.dfcM yy (mm + 1) + 106751991073400 + dd - 1 = D := ⟨_, rfl⟩
  have n6 : ∀ w, Calls Tryz.prog 48 #[.int .i64 yy, .int .i64 (mm + 1), .int .i64 dd] w fun e w' => e = .returned (.int .u64 D) ∧ w = w' := fun w => by
    have := absDays_any yy (mm + 1) dd (by omega) (by omega) (by omega) (by omega) (by omega) (by omega) w
    rwa [hD] at this
  have hbd := dfcM_bd yy (mm + 1) (by omega) (by omega) (by omega) (by omega)
  have bD : 100000000000000 ≤ D ∧ D ≤ 110000000000000 := by omega
  obtain ⟨v1, hv1⟩ : ∃ v, wrap64 (D * 86400) = v := ⟨_, rfl⟩
  have bv1 : -9223372036854775808 ≤ v1 ∧ v1 ≤ 9223372036854775807 := by rw [← hv1]; unfold wrap64; omega
  obtain ⟨v2, hv2⟩ : ∃ v, wrap64 (v1 + (hh * 3600 + mi2 * 60 + ss)) = v := ⟨_, rfl⟩
  have bv2 : -9223372036854775808 ≤ v2 ∧ v2 ≤ 9223372036854775807 := by rw [← hv2]; unfold wrap64; omega
  have hU : unixZ y (M - 1) d h mi s = (DateLaw.dfcM yy (mm + 1) + dd - 1) * 86400 + hh * 3600 + mi2 * 60 + ss := by
    unfold unixZ
    rw [hyy, hmm]
    omega
  have bU : -400000000000000 ≤ unixZ y (M - 1) d h mi s ∧ unixZ y (M - 1) d h mi s ≤ 400000000000000 := by rw [hU]; omega
  have hv3 : wrap64 (v2 + -9223372028741760000) = unixZ y (M - 1) d h mi s := by
    rw [hU, ← hv2, ← hv1, ← hD]
    unfold wrap64
    omega
  generalize unixZ y (M - 1) d h mi s = U at hU bU hv3 ⊢
  obtain ⟨by1a, by1b⟩ := by1
  obtain ⟨bm1a, bm1b⟩ := bm1
  obtain ⟨bssa, bssb⟩ := bss
  obtain ⟨bmi2a, bmi2b⟩ := bmi2
  obtain ⟨bdda, bddb⟩ := bdd
  obtain ⟨bhha, bhhb⟩ := bhh
  obtain ⟨bDa, bDb⟩ := bD
  obtain ⟨bv1a, bv1b⟩ := bv1
  obtain ⟨bv2a, bv2b⟩ := bv2
  obtain ⟨bUa, bUb⟩ := bU
  have N1 := Lib.hid n1
  have N2 := Lib.hid n2
  have N3 := Lib.hid n3
  have N4 := Lib.hid n4
  have N5 := Lib.hid n5
  have N6 := Lib.hid n6
  clear hyy hmm hmi1 hss hh3 hmi2 hdd hhh n1 n2 n3 n4 n5 n6 hD hbd hU bmi1 bh3
  go_enter Tryz.func34, Tryz.ntmps34
  go_wp2_with fail
  with_reducible refine (N1.out _).mono ?_
  rintro e w' ⟨rfl, rfl⟩
  go_wp2_with fail
  with_reducible refine (N2.out _).mono ?_
  rintro e w' ⟨rfl, rfl⟩
  go_wp2_with fail
  with_reducible refine (N3.out _).mono ?_
  rintro e w' ⟨rfl, rfl⟩
  go_wp2_with fail
  with_reducible refine (N4.out _).mono ?_
  rintro e w' ⟨rfl, rfl⟩
  go_wp2_with fail
  with_reducible refine (N5.out _).mono ?_
  rintro e w' ⟨rfl, rfl⟩
  go_wp2_with fail
  with_reducible refine (N6.out _).mono ?_
  rintro e w' ⟨rfl, rfl⟩
  go_wp2_with fail
  with_reducible refine (lookup_utc _ _ _ (by go_cell)).mono ?_
  rintro e w' ⟨⟨t, rfl⟩, rfl⟩
  have hl1 : lb < w.heap.size + 1 := by omega
  have hl2 : lb < w.heap.size + 1 + 1 := by omega
  go_wp2_with go_in
  go_returns
  exact ⟨rfl, by go_grown⟩
theorem tUnix (ns : Nat) (E : Int) (hn : ns < 1000000000) (h1 : -20000000000000000 ≤ E) (h2 : E ≤ 20000000000000000) (w : World) :
    Calls Tryz.prog 21 #[.agg #[.int .u64 ns, .int .i64 E, .pointer none]] w fun e w' => e = .returned (.int .i64 (E - 62135596800)) ∧ Below w.heap.size w w' := by
  have hb := top_off ns (by omega)
  go_enter Tryz.func21, Tryz.ntmps21
  go_wp2_with go_in
  go_ret
  exact ⟨rfl, by go_grown⟩
theorem tNano (ns : Nat) (E : Int) (hn : ns < 1000000000) (w : World) :
    Calls Tryz.prog 22 #[.agg #[.int .u64 ns, .int .i64 E, .pointer none]] w fun e w' => e = .returned (.int .i64 ns) ∧ Below w.heap.size w w' := by
  have hb := low30 ns (by omega)
  go_enter Tryz.func22, Tryz.ntmps22
  go_wp2_with go_in
  go_ret
  exact ⟨rfl, by go_grown⟩
end Go.Proofs.YtonbnmpleecegaaGreatDoor
