/- Contracts: gotime's methods of an instant (seconds since year 1 in E, nanoseconds ns, no location), its makers Unix, In, UTC. -/
import Derived.Test.YtclopknkophfkaaGreatDoorGmA
namespace Go.Proofs.YtclopknkophfkaaGreatDoor
open Go.RowKit Civil

/-- An instant: A its seconds since the absolute epoch, d its days. -/
structure TimeOk (ns : Nat) (E : Int) (A d : Nat) : Prop where
  n : ns < 1073741824
  lo : -20000000000000 ≤ E
  hi : E ≤ 20000000000000
  a : (A : Int) = E + 9223371966606163200
  d : A / 86400 = d
theorem TimeOk.dlt {ns : Nat} {E : Int} {A d : Nat} (h : TimeOk ns E A d) : d < 300000000000000 := by
  obtain ⟨_, _, h3, h4, h5⟩ := h
  omega
theorem cent_lt {d : Nat} (h : d < 300000000000000) : cent d < 10000000000 := by unfold cent; omega
theorem absA {ns : Nat} {E : Int} {A d : Nat} (h : TimeOk ns E A d) (w : World) :
    Calls Tryz.prog 150 #[.agg #[.int .u64 ns, .int .i64 E, .pointer none]] w fun e w' => e = .returned (.int .u64 A) ∧ Below w.heap.size w w' :=
  (absSec_any ns E h.n h.lo h.hi w).mono fun e w' hh => ⟨hh.1.trans (ret_intE (by have := h.a; omega)), hh.2⟩
theorem days_any (A d : Nat) (h : A / 86400 = d) (hd2 : d < 300000000000000) (w : World) : Calls Tryz.prog 151 #[.int .u64 A] w fun e w' => e = .returned (.int .u64 d) ∧ w = w' := by
  have hd : ((A : Int) / 86400) = (d : Int) := by omega
  have hl : IntKind.u64.wrap (d : Int) = (d : Int) := by rw [IntKind.wrap_u64]; omega
  clear h
  go_enter Tryz.func151, Tryz.ntmps151
  go_wp2
  go_ret
  exact ⟨rfl, rfl⟩
theorem wday_any (d : Nat) (h : d < 300000000000000) (w : World) : Calls Tryz.prog 158 #[.int .u64 d] w fun e w' => e = .returned (.int .i64 (((d : Int) + 3) % 7)) ∧ w = w' := by
  go_enter Tryz.func158, Tryz.ntmps158
  go_wp2
  go_ret
  exact ⟨rfl, rfl⟩
theorem yearYday_any (d : Nat) (h : d < 300000000000000) (w : World) : Calls Tryz.prog 159 #[.int .u64 d] w fun e w' => e = .returned (.tuple #[.int .i64 ((cent d : Int) * 100 - 292277022400 + cyear d + jfN (ayday d)), .int .i64 (ydayZ (ayday d) (jfN (ayday d)) (leapN (cent d) (cyear d)))]) ∧ w = w' := by
  have h1 := cent_lt h
  have h2 := cyear_lt d
  have h3 := ayday_lt d
  have h4 := jf_le (ayday d)
  have h5 := leap_le (cent d) (cyear d)
  go_enter Tryz.func159, Tryz.ntmps159
  go_wp2_with (first | (go_at_call 152; refine (split_any d h _).mono ?_; rintro e w' ⟨rfl, rfl⟩) | (go_at_call 153; refine (janFeb_any (ayday d) _).mono ?_; rintro e w' ⟨rfl, rfl⟩) | (go_at_call 154; refine (year_any _ _ _ h1 h2 h4 _).mono ?_; rintro e w' ⟨rfl, rfl⟩) | (go_at_call 190; refine (leap_any _ _ h1 h2 _).mono ?_; rintro e w' ⟨rfl, rfl⟩) | (go_at_call 189; refine (yday_any _ _ _ h3 h4 h5 _).mono ?_; rintro e w' ⟨rfl, rfl⟩))
  go_ret2
  exact ⟨rfl, rfl⟩
theorem tYear {ns : Nat} {E : Int} {A d : Nat} (h : TimeOk ns E A d) (w : World) :
    Calls Tryz.prog 116 #[.agg #[.int .u64 ns, .int .i64 E, .pointer none]] w fun e w' => e = .returned (.int .i64 ((cent d : Int) * 100 - 292277022400 + cyear d + jfN (ayday d))) ∧ Below w.heap.size w w' := by
  have hd := h.dlt
  have h1 := cent_lt hd
  have h2 := cyear_lt d
  have h3 := ayday_lt d
  have h4 := jf_le (ayday d)
  have h6 : (2141 * ayday d + 197913) / 65536 < 20 := by omega
  go_enter Tryz.func116, Tryz.ntmps116
  go_wp2_with (first | (go_at_call 150; refine (absA h _).mono ?_; rintro e w1 ⟨rfl, hb1⟩) | (go_at_call 151; refine (days_any A d h.d hd _).mono ?_; rintro e w' ⟨rfl, rfl⟩) | (go_at_call 152; refine (split_any d hd _).mono ?_; rintro e w' ⟨rfl, rfl⟩) | (go_at_call 153; refine (janFeb_any (ayday d) _).mono ?_; rintro e w' ⟨rfl, rfl⟩) | (go_at_call 154; refine (year_any _ _ _ h1 h2 h4 _).mono ?_; rintro e w' ⟨rfl, rfl⟩) | (go_at_call 155; refine (ysplit_any _ h3 _).mono ?_; rintro e w' ⟨rfl, rfl⟩) | (go_at_call 156; refine (month_any _ _ h6 h4 _).mono ?_; rintro e w' ⟨rfl, rfl⟩) | (go_at_call 158; refine (wday_any d hd _).mono ?_; rintro e w' ⟨rfl, rfl⟩) | (go_at_call 159; refine (yearYday_any d hd _).mono ?_; rintro e w' ⟨rfl, rfl⟩))
  go_ret
  exact ⟨by first | rfl | (exact ret_intE (by simp)), Below.trans (by go_grown) (hb1.mono (by first | (simp; done) | (simp; omega)))⟩
theorem tMonth {ns : Nat} {E : Int} {A d : Nat} (h : TimeOk ns E A d) (w : World) :
    Calls Tryz.prog 117 #[.agg #[.int .u64 ns, .int .i64 E, .pointer none]] w fun e w' => e = .returned (.int .i64 ((((2141 * ayday d + 197913) / 65536 : Nat) : Int) - (jfN (ayday d) : Int) * 12)) ∧ Below w.heap.size w w' := by
  have hd := h.dlt
  have h1 := cent_lt hd
  have h2 := cyear_lt d
  have h3 := ayday_lt d
  have h4 := jf_le (ayday d)
  have h6 : (2141 * ayday d + 197913) / 65536 < 20 := by omega
  go_enter Tryz.func117, Tryz.ntmps117
  go_wp2_with (first | (go_at_call 150; refine (absA h _).mono ?_; rintro e w1 ⟨rfl, hb1⟩) | (go_at_call 151; refine (days_any A d h.d hd _).mono ?_; rintro e w' ⟨rfl, rfl⟩) | (go_at_call 152; refine (split_any d hd _).mono ?_; rintro e w' ⟨rfl, rfl⟩) | (go_at_call 153; refine (janFeb_any (ayday d) _).mono ?_; rintro e w' ⟨rfl, rfl⟩) | (go_at_call 154; refine (year_any _ _ _ h1 h2 h4 _).mono ?_; rintro e w' ⟨rfl, rfl⟩) | (go_at_call 155; refine (ysplit_any _ h3 _).mono ?_; rintro e w' ⟨rfl, rfl⟩) | (go_at_call 156; refine (month_any _ _ h6 h4 _).mono ?_; rintro e w' ⟨rfl, rfl⟩) | (go_at_call 158; refine (wday_any d hd _).mono ?_; rintro e w' ⟨rfl, rfl⟩) | (go_at_call 159; refine (yearYday_any d hd _).mono ?_; rintro e w' ⟨rfl, rfl⟩))
  go_ret
  exact ⟨by first | rfl | (exact ret_intE (by simp)), Below.trans (by go_grown) (hb1.mono (by first | (simp; done) | (simp; omega)))⟩
theorem tDay {ns : Nat} {E : Int} {A d : Nat} (h : TimeOk ns E A d) (w : World) :
    Calls Tryz.prog 118 #[.agg #[.int .u64 ns, .int .i64 E, .pointer none]] w fun e w' => e = .returned (.int .i64 ((1 + (2141 * ayday d + 197913) % 65536 / 2141 : Nat) : Int)) ∧ Below w.heap.size w w' := by
  have hd := h.dlt
  have h1 := cent_lt hd
  have h2 := cyear_lt d
  have h3 := ayday_lt d
  have h4 := jf_le (ayday d)
  have h6 : (2141 * ayday d + 197913) / 65536 < 20 := by omega
  go_enter Tryz.func118, Tryz.ntmps118
  go_wp2_with (first | (go_at_call 150; refine (absA h _).mono ?_; rintro e w1 ⟨rfl, hb1⟩) | (go_at_call 151; refine (days_any A d h.d hd _).mono ?_; rintro e w' ⟨rfl, rfl⟩) | (go_at_call 152; refine (split_any d hd _).mono ?_; rintro e w' ⟨rfl, rfl⟩) | (go_at_call 153; refine (janFeb_any (ayday d) _).mono ?_; rintro e w' ⟨rfl, rfl⟩) | (go_at_call 154; refine (year_any _ _ _ h1 h2 h4 _).mono ?_; rintro e w' ⟨rfl, rfl⟩) | (go_at_call 155; refine (ysplit_any _ h3 _).mono ?_; rintro e w' ⟨rfl, rfl⟩) | (go_at_call 156; refine (month_any _ _ h6 h4 _).mono ?_; rintro e w' ⟨rfl, rfl⟩) | (go_at_call 158; refine (wday_any d hd _).mono ?_; rintro e w' ⟨rfl, rfl⟩) | (go_at_call 159; refine (yearYday_any d hd _).mono ?_; rintro e w' ⟨rfl, rfl⟩))
  go_ret
  exact ⟨by first | rfl | (exact ret_intE (by simp)), Below.trans (by go_grown) (hb1.mono (by first | (simp; done) | (simp; omega)))⟩
theorem tHour {ns : Nat} {E : Int} {A d : Nat} (h : TimeOk ns E A d) (w : World) :
    Calls Tryz.prog 119 #[.agg #[.int .u64 ns, .int .i64 E, .pointer none]] w fun e w' => e = .returned (.int .i64 ((A : Int) % 86400 / 3600)) ∧ Below w.heap.size w w' := by
  have hd := h.dlt
  have h1 := cent_lt hd
  have h2 := cyear_lt d
  have h3 := ayday_lt d
  have h4 := jf_le (ayday d)
  have h6 : (2141 * ayday d + 197913) / 65536 < 20 := by omega
  go_enter Tryz.func119, Tryz.ntmps119
  go_wp2_with (first | (go_at_call 150; refine (absA h _).mono ?_; rintro e w1 ⟨rfl, hb1⟩) | (go_at_call 151; refine (days_any A d h.d hd _).mono ?_; rintro e w' ⟨rfl, rfl⟩) | (go_at_call 152; refine (split_any d hd _).mono ?_; rintro e w' ⟨rfl, rfl⟩) | (go_at_call 153; refine (janFeb_any (ayday d) _).mono ?_; rintro e w' ⟨rfl, rfl⟩) | (go_at_call 154; refine (year_any _ _ _ h1 h2 h4 _).mono ?_; rintro e w' ⟨rfl, rfl⟩) | (go_at_call 155; refine (ysplit_any _ h3 _).mono ?_; rintro e w' ⟨rfl, rfl⟩) | (go_at_call 156; refine (month_any _ _ h6 h4 _).mono ?_; rintro e w' ⟨rfl, rfl⟩) | (go_at_call 158; refine (wday_any d hd _).mono ?_; rintro e w' ⟨rfl, rfl⟩) | (go_at_call 159; refine (yearYday_any d hd _).mono ?_; rintro e w' ⟨rfl, rfl⟩))
  go_ret
  exact ⟨by first | rfl | (exact ret_intE (by simp)), Below.trans (by go_grown) (hb1.mono (by first | (simp; done) | (simp; omega)))⟩
theorem tMinute {ns : Nat} {E : Int} {A d : Nat} (h : TimeOk ns E A d) (w : World) :
    Calls Tryz.prog 120 #[.agg #[.int .u64 ns, .int .i64 E, .pointer none]] w fun e w' => e = .returned (.int .i64 ((A : Int) % 3600 / 60)) ∧ Below w.heap.size w w' := by
  have hd := h.dlt
  have h1 := cent_lt hd
  have h2 := cyear_lt d
  have h3 := ayday_lt d
  have h4 := jf_le (ayday d)
  have h6 : (2141 * ayday d + 197913) / 65536 < 20 := by omega
  go_enter Tryz.func120, Tryz.ntmps120
  go_wp2_with (first | (go_at_call 150; refine (absA h _).mono ?_; rintro e w1 ⟨rfl, hb1⟩) | (go_at_call 151; refine (days_any A d h.d hd _).mono ?_; rintro e w' ⟨rfl, rfl⟩) | (go_at_call 152; refine (split_any d hd _).mono ?_; rintro e w' ⟨rfl, rfl⟩) | (go_at_call 153; refine (janFeb_any (ayday d) _).mono ?_; rintro e w' ⟨rfl, rfl⟩) | (go_at_call 154; refine (year_any _ _ _ h1 h2 h4 _).mono ?_; rintro e w' ⟨rfl, rfl⟩) | (go_at_call 155; refine (ysplit_any _ h3 _).mono ?_; rintro e w' ⟨rfl, rfl⟩) | (go_at_call 156; refine (month_any _ _ h6 h4 _).mono ?_; rintro e w' ⟨rfl, rfl⟩) | (go_at_call 158; refine (wday_any d hd _).mono ?_; rintro e w' ⟨rfl, rfl⟩) | (go_at_call 159; refine (yearYday_any d hd _).mono ?_; rintro e w' ⟨rfl, rfl⟩))
  go_ret
  exact ⟨by first | rfl | (exact ret_intE (by simp)), Below.trans (by go_grown) (hb1.mono (by first | (simp; done) | (simp; omega)))⟩
theorem tSecond {ns : Nat} {E : Int} {A d : Nat} (h : TimeOk ns E A d) (w : World) :
    Calls Tryz.prog 121 #[.agg #[.int .u64 ns, .int .i64 E, .pointer none]] w fun e w' => e = .returned (.int .i64 ((A : Int) % 60)) ∧ Below w.heap.size w w' := by
  have hd := h.dlt
  have h1 := cent_lt hd
  have h2 := cyear_lt d
  have h3 := ayday_lt d
  have h4 := jf_le (ayday d)
  have h6 : (2141 * ayday d + 197913) / 65536 < 20 := by omega
  go_enter Tryz.func121, Tryz.ntmps121
  go_wp2_with (first | (go_at_call 150; refine (absA h _).mono ?_; rintro e w1 ⟨rfl, hb1⟩) | (go_at_call 151; refine (days_any A d h.d hd _).mono ?_; rintro e w' ⟨rfl, rfl⟩) | (go_at_call 152; refine (split_any d hd _).mono ?_; rintro e w' ⟨rfl, rfl⟩) | (go_at_call 153; refine (janFeb_any (ayday d) _).mono ?_; rintro e w' ⟨rfl, rfl⟩) | (go_at_call 154; refine (year_any _ _ _ h1 h2 h4 _).mono ?_; rintro e w' ⟨rfl, rfl⟩) | (go_at_call 155; refine (ysplit_any _ h3 _).mono ?_; rintro e w' ⟨rfl, rfl⟩) | (go_at_call 156; refine (month_any _ _ h6 h4 _).mono ?_; rintro e w' ⟨rfl, rfl⟩) | (go_at_call 158; refine (wday_any d hd _).mono ?_; rintro e w' ⟨rfl, rfl⟩) | (go_at_call 159; refine (yearYday_any d hd _).mono ?_; rintro e w' ⟨rfl, rfl⟩))
  go_ret
  exact ⟨by first | rfl | (exact ret_intE (by simp)), Below.trans (by go_grown) (hb1.mono (by first | (simp; done) | (simp; omega)))⟩
theorem tWeekday {ns : Nat} {E : Int} {A d : Nat} (h : TimeOk ns E A d) (w : World) :
    Calls Tryz.prog 123 #[.agg #[.int .u64 ns, .int .i64 E, .pointer none]] w fun e w' => e = .returned (.int .i64 (((d : Int) + 3) % 7)) ∧ Below w.heap.size w w' := by
  have hd := h.dlt
  have h1 := cent_lt hd
  have h2 := cyear_lt d
  have h3 := ayday_lt d
  have h4 := jf_le (ayday d)
  have h6 : (2141 * ayday d + 197913) / 65536 < 20 := by omega
  go_enter Tryz.func123, Tryz.ntmps123
  go_wp2_with (first | (go_at_call 150; refine (absA h _).mono ?_; rintro e w1 ⟨rfl, hb1⟩) | (go_at_call 151; refine (days_any A d h.d hd _).mono ?_; rintro e w' ⟨rfl, rfl⟩) | (go_at_call 152; refine (split_any d hd _).mono ?_; rintro e w' ⟨rfl, rfl⟩) | (go_at_call 153; refine (janFeb_any (ayday d) _).mono ?_; rintro e w' ⟨rfl, rfl⟩) | (go_at_call 154; refine (year_any _ _ _ h1 h2 h4 _).mono ?_; rintro e w' ⟨rfl, rfl⟩) | (go_at_call 155; refine (ysplit_any _ h3 _).mono ?_; rintro e w' ⟨rfl, rfl⟩) | (go_at_call 156; refine (month_any _ _ h6 h4 _).mono ?_; rintro e w' ⟨rfl, rfl⟩) | (go_at_call 158; refine (wday_any d hd _).mono ?_; rintro e w' ⟨rfl, rfl⟩) | (go_at_call 159; refine (yearYday_any d hd _).mono ?_; rintro e w' ⟨rfl, rfl⟩))
  go_ret
  exact ⟨by first | rfl | (exact ret_intE (by simp)), Below.trans (by go_grown) (hb1.mono (by first | (simp; done) | (simp; omega)))⟩
theorem tYearDay {ns : Nat} {E : Int} {A d : Nat} (h : TimeOk ns E A d) (w : World) :
    Calls Tryz.prog 124 #[.agg #[.int .u64 ns, .int .i64 E, .pointer none]] w fun e w' => e = .returned (.int .i64 (ydayZ (ayday d) (jfN (ayday d)) (leapN (cent d) (cyear d)))) ∧ Below w.heap.size w w' := by
  have hd := h.dlt
  have h1 := cent_lt hd
  have h2 := cyear_lt d
  have h3 := ayday_lt d
  have h4 := jf_le (ayday d)
  have h6 : (2141 * ayday d + 197913) / 65536 < 20 := by omega
  go_enter Tryz.func124, Tryz.ntmps124
  go_wp2_with (first | (go_at_call 150; refine (absA h _).mono ?_; rintro e w1 ⟨rfl, hb1⟩) | (go_at_call 151; refine (days_any A d h.d hd _).mono ?_; rintro e w' ⟨rfl, rfl⟩) | (go_at_call 152; refine (split_any d hd _).mono ?_; rintro e w' ⟨rfl, rfl⟩) | (go_at_call 153; refine (janFeb_any (ayday d) _).mono ?_; rintro e w' ⟨rfl, rfl⟩) | (go_at_call 154; refine (year_any _ _ _ h1 h2 h4 _).mono ?_; rintro e w' ⟨rfl, rfl⟩) | (go_at_call 155; refine (ysplit_any _ h3 _).mono ?_; rintro e w' ⟨rfl, rfl⟩) | (go_at_call 156; refine (month_any _ _ h6 h4 _).mono ?_; rintro e w' ⟨rfl, rfl⟩) | (go_at_call 158; refine (wday_any d hd _).mono ?_; rintro e w' ⟨rfl, rfl⟩) | (go_at_call 159; refine (yearYday_any d hd _).mono ?_; rintro e w' ⟨rfl, rfl⟩))
  go_ret
  exact ⟨by first | rfl | (exact ret_intE (by simp)), Below.trans (by go_grown) (hb1.mono (by first | (simp; done) | (simp; omega)))⟩
theorem tNanosecond {ns : Nat} {E : Int} {A d : Nat} (h : TimeOk ns E A d) (w : World) :
    Calls Tryz.prog 122 #[.agg #[.int .u64 ns, .int .i64 E, .pointer none]] w fun e w' => e = .returned (.int .i64 ns) ∧ Below w.heap.size w w' := by
  have hb := low30 ns h.n
  have hn := h.n
  clear h
  go_enter Tryz.func122, Tryz.ntmps122
  go_wp2_with go_in
  go_ret
  exact ⟨rfl, by go_grown⟩
theorem unixTime_any (s : Int) (ns : Nat) (h1 : -20000000000000 ≤ s) (h2 : s ≤ 20000000000000) (h3 : ns < 1000000000) (w : World) :
    Calls Tryz.prog 146 #[.int .i64 s, .int .i32 ns] w fun e w' => e = .returned (.agg #[.int .u64 ns, .int .i64 (s + 62135596800), .pointer none]) ∧ Below w.heap.size w w' := by
  go_enter Tryz.func146, Tryz.ntmps146
  go_wp2
  go_returns
  exact ⟨rfl, by go_grown⟩
theorem unix_any (s : Int) (ns : Nat) (h1 : -20000000000000 ≤ s) (h2 : s ≤ 20000000000000) (h3 : ns < 1000000000) (w : World) :
    Calls Tryz.prog 113 #[.int .i64 s, .int .i64 ns] w fun e w' => e = .returned (.agg #[.int .u64 ns, .int .i64 (s + 62135596800), .pointer none]) ∧ Below w.heap.size w w' := by
  go_enter Tryz.func113, Tryz.ntmps113
  go_wp2_with go_in
  go_returns
  exact ⟨rfl, by go_grown⟩
theorem in_any (ns : Nat) (E : Int) (lb : Nat) (hn : ns < 1073741824) (w : World) (hc : w.cell? ⟨lb, 0, none⟩ = some (.bool true)) (hl : lb < w.heap.size) :
    Calls Tryz.prog 115 #[.agg #[.int .u64 ns, .int .i64 E, .pointer none], .pointer (some ⟨lb, 0, none⟩)] w fun e w' => e = .returned (.agg #[.int .u64 ns, .int .i64 E, .pointer none]) ∧ Below w.heap.size w w' := by
  have hb := top_off ns (by omega)
  go_enter Tryz.func115, Tryz.ntmps115
  go_wp2_with go_in
  go_returns
  exact ⟨rfl, by go_grown⟩
end Go.Proofs.YtclopknkophfkaaGreatDoor
