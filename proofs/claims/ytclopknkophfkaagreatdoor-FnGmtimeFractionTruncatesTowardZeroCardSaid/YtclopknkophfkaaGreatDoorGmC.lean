/- Contracts: math.Floor, epochToArray, gmtime and its wrapper. -/
import Derived.Test.YtclopknkophfkaaGreatDoorGmB
import Derived.Test.YtclopknkophfkaaGreatDoorFl0
import Derived.Test.YtclopknkophfkaaGreatDoorFloatVal
import Derived.Test.YtclopknkophfkaaGreatDoorTail
namespace Go.Proofs.YtclopknkophfkaaGreatDoor
open Go.RowKit Go.Sort Civil

theorem toIntegral_num (x : Nat) (s : Bool) (m : Nat) (p : Int) (h : FloatKind.f64.decode x = .number s m p) :
    Extern.MathFloor.toIntegral "math.archFloor" .down #[.float .f64 x] = pure (.float .f64 (FloatKind.f64.encode ((Ieee.Datum.number s m p).integral .down))) := by
  conv => lhs; whnf
  rw [h]
theorem arch_run (x : Nat) (w : World) : (callFunc 147 #[.float .f64 x]).run Tryz.prog w = (Extern.MathFloor.toIntegral "math.archFloor" .down #[.float .f64 x] >>= fun v => pure (Next.value v)).run Tryz.prog w := by kernel_rfl
theorem arch_floor (x : Nat) (s : Bool) (m : Nat) (p : Int) (h : Ieee.double.read x = .number s m p) (w : World) :
    (callFunc 147 #[.float .f64 x]).run Tryz.prog w = .ok (.value (.float .f64 (Ieee.double.write ((Ieee.Datum.number s m p).integral .down)))) w := by
  rw [arch_run, toIntegral_num x s m p h]
  rfl
theorem floor_any (x : Nat) (s : Bool) (m : Nat) (p : Int) (h : Ieee.double.read x = .number s m p) (w : World) :
    Calls Tryz.prog 114 #[.float .f64 x] w fun e w' => e = .returned (.float .f64 (Ieee.double.write ((Ieee.Datum.number s m p).integral .down))) ∧ w = w' := by
  have hk := arch_floor x s m p h
  generalize Ieee.double.write ((Ieee.Datum.number s m p).integral .down) = fl at hk ⊢
  clear h
  go_enter Tryz.func114, Tryz.ntmps114
  go_wp2
  go_ret
  exact ⟨rfl, rfl⟩

theorem regrown_below {W w' : World} {d : Nat} {os : Array Obj} (h : w' = grow (redrawn W d) os) : Below W.heap.size W w' := h ▸ below_regrown W d os
/-! The fields, each behind a name. -/
def yearZ (d : Nat) : Int := (cent d : Int) * 100 - 292277022400 + cyear d + jfN (ayday d)
def monZ (d : Nat) : Int := (((2141 * ayday d + 197913) / 65536 : Nat) : Int) - (jfN (ayday d) : Int) * 12
def mdayZ (d : Nat) : Int := ((1 + (2141 * ayday d + 197913) % 65536 / 2141 : Nat) : Int)
def ydZ (d : Nat) : Int := ydayZ (ayday d) (jfN (ayday d)) (leapN (cent d) (cyear d))
theorem monZ_bd (d : Nat) : -20 ≤ monZ d ∧ monZ d ≤ 20 := by
  have h3 := ayday_lt d
  have h4 := jf_le (ayday d)
  unfold monZ; omega
theorem ydZ_bd (d : Nat) : -400 ≤ ydZ d ∧ ydZ d ≤ 500 := by
  have h3 := ayday_lt d
  have h4 := jf_le (ayday d)
  have h5 := leap_le (cent d) (cyear d)
  unfold ydZ ydayZ; split <;> omega
theorem uYear {ns : Nat} {E : Int} {A d : Nat} (h : TimeOk ns E A d) (w : World) : Calls Tryz.prog 116 #[.agg #[.int .u64 ns, .int .i64 E, .pointer none]] w fun e w' => e = .returned (.int .i64 (yearZ d)) ∧ Below w.heap.size w w' := tYear h w
theorem uMonth {ns : Nat} {E : Int} {A d : Nat} (h : TimeOk ns E A d) (w : World) : Calls Tryz.prog 117 #[.agg #[.int .u64 ns, .int .i64 E, .pointer none]] w fun e w' => e = .returned (.int .i64 (monZ d)) ∧ Below w.heap.size w w' := tMonth h w
theorem uDay {ns : Nat} {E : Int} {A d : Nat} (h : TimeOk ns E A d) (w : World) : Calls Tryz.prog 118 #[.agg #[.int .u64 ns, .int .i64 E, .pointer none]] w fun e w' => e = .returned (.int .i64 (mdayZ d)) ∧ Below w.heap.size w w' := tDay h w
theorem uYearDay {ns : Nat} {E : Int} {A d : Nat} (h : TimeOk ns E A d) (w : World) : Calls Tryz.prog 124 #[.agg #[.int .u64 ns, .int .i64 E, .pointer none]] w fun e w' => e = .returned (.int .i64 (ydZ d)) ∧ Below w.heap.size w w' := tYearDay h w

/-- What epochToArray hands back: a new row of the eight fields. -/
def EpochEnd (A d : Nat) (q : Nat) (w : World) (e : Ending) (w' : World) : Prop :=
  ∃ b : Nat, e = .returned (.slice (some ⟨b, 0, none⟩) 8 8) ∧ b < w'.heap.size ∧ Below w.heap.size w w' ∧
    w'.cell? ⟨b, 0, none⟩ = some (.iface 3 (.int .i64 (yearZ d))) ∧
    w'.cell? ⟨b, 1, none⟩ = some (.iface 3 (.int .i64 (monZ d - 1))) ∧
    w'.cell? ⟨b, 2, none⟩ = some (.iface 3 (.int .i64 (mdayZ d))) ∧
    w'.cell? ⟨b, 3, none⟩ = some (.iface 3 (.int .i64 ((A : Int) % 86400 / 3600))) ∧
    w'.cell? ⟨b, 4, none⟩ = some (.iface 3 (.int .i64 ((A : Int) % 3600 / 60))) ∧
    w'.cell? ⟨b, 5, none⟩ = some (.iface 37 (.float .f64 q)) ∧
    w'.cell? ⟨b, 6, none⟩ = some (.iface 3 (.int .i64 (((d : Int) + 3) % 7))) ∧
    w'.cell? ⟨b, 7, none⟩ = some (.iface 3 (.int .i64 (ydZ d - 1)))

set_option maxRecDepth 100000 in
set_option maxHeartbeats 4000000 in
theorem epoch_any (v fl r1 r2 q1 q2 : Nat) (s : Int) (ns A d lb : Nat) (w : World) (hF : ∀ w : World, Calls Tryz.prog 114 #[.float .f64 v] w fun e w' => e = .returned (.float .f64 fl) ∧ w = w')
    (hs : floatToIntVal .f64 v .i64 = some s) (h1 : floatBits .sub .f64 v fl = some r1) (h2 : floatBits .mul .f64 r1 4741671816366391296 = some r2) (h3 : floatToIntVal .f64 r2 .i64 = some (ns : Int))
    (h4 : floatBits .quo .f64 (floatOfInt .f64 (ns : Int)) 4741671816366391296 = some q1) (h5 : floatBits .add .f64 (floatOfInt .f64 ((A : Int) % 60)) q1 = some q2)
    (ht : TimeOk ns (s + 62135596800) A d) (hn : ns < 1000000000) (hs1 : -20000000000000 ≤ s) (hs2 : s ≤ 20000000000000)
    (hc : w.cell? ⟨lb, 0, none⟩ = some (.bool true)) (hl : lb < w.heap.size) :
    Calls Tryz.prog 88 #[.float .f64 v, .pointer (some ⟨lb, 0, none⟩)] w (EpochEnd A d q2 w) := by
  have k1 := fun w => run_convert_float_int (P := Tryz.prog) w 37 2 .f64 .i64 v s (by kernel_rfl) Tryz.underlying2 hs
  have k2 := fun w => run_float_arith (P := Tryz.prog) w .sub 37 .f64 v fl r1 h1
  have k3 := fun w => run_float_arith (P := Tryz.prog) w .mul 37 .f64 r1 4741671816366391296 r2 h2
  have k4 := fun w => run_convert_float_int (P := Tryz.prog) w 37 2 .f64 .i64 r2 (ns : Int) (by kernel_rfl) Tryz.underlying2 h3
  have k5 := fun w => run_float_arith (P := Tryz.prog) w .quo 37 .f64 (floatOfInt .f64 (ns : Int)) 4741671816366391296 q1 h4
  have k6 := fun w => run_float_arith (P := Tryz.prog) w .add 37 .f64 (floatOfInt .f64 ((A : Int) % 60)) q1 q2 h5
  have hm := IntWalk.i64_in (monZ d - 1) (by have := monZ_bd d; omega)
  have hy := IntWalk.i64_in (ydZ d - 1) (by have := ydZ_bd d; omega)
  have hHF := Lib.hid hF
  clear hs h1 h2 h3 h4 h5 hF
  go_enter Tryz.func88, Tryz.ntmps88
  go_wp2_with (go_at_call 114; refine (hHF.out _).mono ?_; rintro e w' ⟨rfl, rfl⟩)
  refine (unix_any s ns hs1 hs2 hn _).mono ?_
  rintro e w1 ⟨rfl, hb1⟩
  have HB1 := Lib.hid hb1
  have hc1 := Lib.hid ((hb1.cell (p := ⟨lb, 0, none⟩) hl).trans hc)
  have hl1 : lb < w1.heap.size := Nat.lt_of_lt_of_le hl hb1.size
  clear hb1
  go_wp2_with fail
  refine (in_any ns (s + 62135596800) lb ht.n _ hc1.out hl1).mono ?_
  rintro e w2 ⟨rfl, hb2⟩
  have HB2 := Lib.hid (HB1.out.trans (hb2.mono HB1.out.size))
  clear hb2
  go_wp2_with fail
  have cr := cell_rg
  have hB0 : Below w.heap.size w2 w2 := Below.refl _ _
  refine wp_region_quiet_tail (C := fun w' => ∃ p : Regrown, w' = grow (redrawn _ p.d) p.os) 32 (by kernel_rfl) (by kernel_rfl) ⟨⟨_, #[]⟩, by rw [grow_empty]; rfl⟩ ?_
  simp only [List.take_succ_cons, List.take_zero, List.drop_succ_cons, List.drop_zero]
  repeat (quiet_step (first | (go_at_call 116; exact Calls.regrown_of (uYear ht _)) | (go_at_call 117; exact Calls.regrown_of (uMonth ht _)) | (go_at_call 118; exact Calls.regrown_of (uDay ht _)) | (go_at_call 119; exact Calls.regrown_of (tHour ht _)) | (go_at_call 120; exact Calls.regrown_of (tMinute ht _)) | (go_at_call 121; exact Calls.regrown_of (tSecond ht _)) | (go_at_call 122; exact Calls.regrown_of (tNanosecond ht _)) | (go_at_call 123; exact Calls.regrown_of (tWeekday ht _)) | (go_at_call 124; exact Calls.regrown_of (uYearDay ht _))))
  refine wpQuiet_nil ?_
  intro w3 hw3
  obtain ⟨⟨dq, osq⟩, hw4⟩ := hw3
  have hb3 := regrown_below hw4
  have hsz := HB2.out.size
  have HB3 := Lib.hid (HB2.out.trans (Below.trans ((Below.refl _ w2).alloc hsz _) (hb3.mono (by first | (simp; done) | (simp; omega)))))
  clear hb3 hw4 cr
  go_wp2
  go_ret
  exact ⟨w3.heap.size, rfl, by simp, HB3.out.alloc HB3.out.size _, by go_cell, by go_cell, by go_cell, by go_cell, by go_cell, by go_cell, by go_cell, by go_cell⟩

/-- UTC's place. -/
theorem utc_any (w : World) : Calls Tryz.prog 89 #[] w fun e w' => e = .returned (.pointer (some ⟨w.heap.size, 0, none⟩)) ∧ Below w.heap.size w w' ∧ w'.cell? ⟨w.heap.size, 0, none⟩ = some (.bool true) ∧ w.heap.size < w'.heap.size := by
  go_enter Tryz.func89, Tryz.ntmps89
  go_wp2
  go_ret
  exact ⟨rfl, by go_grown, by go_cell, by simp⟩
/-- What a float64 word is to gmtime: its whole part s, the nanoseconds behind it. -/
structure GmOk (v : Nat) (s : Int) (ns A d q : Nat) : Prop where
  fl : ∃ fl r1 r2 q1, (∀ w : World, Calls Tryz.prog 114 #[.float .f64 v] w fun e w' => e = .returned (.float .f64 fl) ∧ w = w') ∧ floatBits .sub .f64 v fl = some r1 ∧ floatBits .mul .f64 r1 4741671816366391296 = some r2 ∧ floatToIntVal .f64 r2 .i64 = some (ns : Int) ∧
    floatBits .quo .f64 (floatOfInt .f64 (ns : Int)) 4741671816366391296 = some q1 ∧ floatBits .add .f64 (floatOfInt .f64 ((A : Int) % 60)) q1 = some q
  hs : floatToIntVal .f64 v .i64 = some s
  ht : TimeOk ns (s + 62135596800) A d
  hn : ns < 1000000000
  h1 : -20000000000000 ≤ s
  h2 : s ≤ 20000000000000
def GmEnd (A d q : Nat) (w : World) (e : Ending) (w' : World) : Prop :=
  ∃ b : Nat, e = .returned (.iface 82 (.slice (some ⟨b, 0, none⟩) 8 8)) ∧ EpochEnd A d q w (.returned (.slice (some ⟨b, 0, none⟩) 8 8)) w'
theorem gmtime_any (v : Nat) (s : Int) (ns A d q : Nat) (h : GmOk v s ns A d q) (w : World) : Calls Tryz.prog 67 #[.iface 37 (.float .f64 v)] w (GmEnd A d q w) := by
  obtain ⟨fl, r1, r2, q1, f1, f2, f3, f4, f5, f6⟩ := h.fl
  have H1 := Lib.hid f1
  have H2 := Lib.hid f2
  have H3 := Lib.hid f3
  have H4 := Lib.hid f4
  have H5 := Lib.hid f5
  have H6 := Lib.hid f6
  clear f1 f2 f3 f4 f5 f6
  go_enter Tryz.func67, Tryz.ntmps67
  go_wp2_with (go_at_call 73; refine (toFloat_f _ _).mono ?_; rintro e w' ⟨rfl, rfl⟩)
  refine (utc_any _).mono ?_
  rintro e w1 ⟨rfl, hb1, hc1, hl1⟩
  have HB1 := Lib.hid hb1
  have HC1 := Lib.hid hc1
  clear hb1 hc1
  go_wp2_with fail
  refine (epoch_any v fl r1 r2 q1 q s ns A d _ _ H1.out h.hs H2.out H3.out H4.out H5.out H6.out h.ht h.hn h.h1 h.h2 HC1.out hl1).mono ?_
  rintro e w2 ⟨b, rfl, hbl, hb2, hcells⟩
  have HB2 := Lib.hid (HB1.out.trans (hb2.mono HB1.out.size))
  have HCL := Lib.hid hcells
  clear hb2 hcells
  go_wp2
  go_ret
  exact ⟨b, rfl, b, rfl, hbl, HB2.out, HCL.out⟩
def ZzGmEnd (A d q : Nat) (w : World) (e : Ending) (w' : World) : Prop :=
  e = .returned (.tuple #[.int .i64 (yearZ d), .int .i64 (monZ d - 1), .int .i64 (mdayZ d), .int .i64 ((A : Int) % 86400 / 3600), .int .i64 ((A : Int) % 3600 / 60), .float .f64 q, .int .i64 (((d : Int) + 3) % 7), .int .i64 (ydZ d - 1), .bool true]) ∧ Below w.heap.size w w'
set_option maxRecDepth 100000 in
set_option maxHeartbeats 2000000 in
theorem zzgmtime_any (v : Nat) (s : Int) (ns A d q : Nat) (h : GmOk v s ns A d q) (w : World) : Calls Tryz.prog 49 #[.float .f64 v] w (ZzGmEnd A d q w) := by
  go_enter Tryz.func49, Tryz.ntmps49
  go_wp2_with fail
  refine (gmtime_any v s ns A d q h _).mono ?_
  rintro e w2 ⟨b, rfl, b', heq, hbl, hb2, c0, c1, c2, c3, c4, c5, c6, c7⟩
  obtain rfl : b' = b := by cases heq; rfl
  have HB2 := Lib.hid hb2
  clear hb2 heq h
  go_wp2
  exact bodyPost_ret (v := .tuple #[.int .i64 (yearZ d), .int .i64 (monZ d - 1), .int .i64 (mdayZ d), .int .i64 ((A : Int) % 86400 / 3600), .int .i64 ((A : Int) % 3600 / 60), .float .f64 q, .int .i64 (((d : Int) + 3) % 7), .int .i64 (ydZ d - 1), .bool true]) (by simp [results, Tryz.results49, go_sem]) rfl ⟨rfl, HB2.out⟩
end Go.Proofs.YtclopknkophfkaaGreatDoor
