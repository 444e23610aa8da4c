/- The walk of FnLtOrderAgreesWithCompare. -/
import Derived.Test.YtclopknkophfkaaGreatDoorFl0
import Derived.Laws.Entries
namespace Go.Proofs.YtclopknkophfkaaGreatDoor
open Go.RowKit Go.Sort

@[go_sem] theorem run_store_float (P : Program) (w : World) (a : Addr) (m : Mode) (k : FloatKind) (b : Nat) : (store a (.float k b) m).run P w = stored P w a (.float k b) m := run_store P w a _ m rfl
def ltB (a b : Nat) : Bool := (FloatKind.f64.format.order a b == some .lt) || FloatKey.isNaN a
theorem ltB_eq (a b : Nat) : ltB a b = (FloatKey.isNaN a || (!FloatKey.isNaN b && decide (FloatKey.key a < FloatKey.key b))) := by
  have e := FloatKey.lt_key a b
  have e' : (FloatKind.f64.format.order a b == some .lt) = (!FloatKey.isNaN a && !FloatKey.isNaN b && decide (FloatKey.key a < FloatKey.key b)) := e
  unfold ltB
  rw [e']
  cases FloatKey.isNaN a <;> simp
theorem eqB_eq (a b : Nat) : (FloatKind.f64.format.order a b == some .eq) = (!FloatKey.isNaN a && !FloatKey.isNaN b && decide (FloatKey.key a = FloatKey.key b)) := FloatKey.eq_key a b
theorem lt_any (a b : Nat) (w : World) : Calls Tryz.prog 68 #[.float .f64 a, .float .f64 b] w fun e w' => e = .returned (.bool (ltB a b)) ∧ w = w' := by
  cases h : (FloatKind.f64.format.order a b == some .lt)
  · have r : ltB a b = FloatKey.isNaN a := by unfold ltB; rw [h]; rfl
    rw [r]
    go_enter Tryz.func68, Tryz.ntmps68
    go_wp2_with (go_at_call 90; refine (isNaN_any _ _).mono ?_; rintro e w' ⟨rfl, rfl⟩)
    go_ret
    exact ⟨rfl, rfl⟩
  · have r : ltB a b = true := by unfold ltB; rw [h]; rfl
    rw [r]
    go_enter Tryz.func68, Tryz.ntmps68
    go_wp2
    go_ret
    exact ⟨rfl, rfl⟩
theorem zzlt_any (a b : Nat) (w : World) : Calls Tryz.prog 52 #[.float .f64 a, .float .f64 b] w fun e w' => e = .returned (.bool (ltB a b)) ∧ w = w' := by
  go_enter Tryz.func52, Tryz.ntmps52
  go_wp2_with (go_at_call 68; refine (lt_any _ _ _).mono ?_; rintro e w' ⟨rfl, rfl⟩)
  go_ret
  exact ⟨rfl, rfl⟩
def cmpF (a b : Nat) : Int := if ltB a b then -1 else if (FloatKind.f64.format.order a b == some .eq) then 0 else 1
set_option maxRecDepth 100000 in
set_option maxHeartbeats 1000000 in
theorem compare_ff (a b : Nat) (w : World) : Calls Tryz.prog 69 #[.iface 37 (.float .f64 a), .iface 37 (.float .f64 b)] w fun e w' => e = .returned (.int .i64 (cmpF a b)) ∧ w = w' := by
  cases h : ltB a b
  · cases h2 : (FloatKind.f64.format.order a b == some .eq)
    · have r : cmpF a b = 1 := by unfold cmpF; rw [h, h2]; rfl
      rw [r]
      go_enter Tryz.func69, Tryz.ntmps69
      go_wp2_with (first | (go_at_call 68; refine (lt_any _ _ _).mono ?_; rintro e w' ⟨rfl, rfl⟩) | go_in)
      go_ret
      exact ⟨rfl, rfl⟩
    · have r : cmpF a b = 0 := by unfold cmpF; rw [h, h2]; rfl
      rw [r]
      go_enter Tryz.func69, Tryz.ntmps69
      go_wp2_with (first | (go_at_call 68; refine (lt_any _ _ _).mono ?_; rintro e w' ⟨rfl, rfl⟩) | go_in)
      go_ret
      exact ⟨rfl, rfl⟩
  · have r : cmpF a b = -1 := by unfold cmpF; rw [h]; rfl
    rw [r]
    go_enter Tryz.func69, Tryz.ntmps69
    go_wp2_with (first | (go_at_call 68; refine (lt_any _ _ _).mono ?_; rintro e w' ⟨rfl, rfl⟩) | go_in)
    go_ret
    exact ⟨rfl, rfl⟩
theorem toany_f (a : Nat) (w : World) : Calls Tryz.prog 70 #[.agg #[.int .i64 3, .bool false, .int .i64 0, .float .f64 a, .string ByteArray.empty, .slice none 0 0]] w
    fun e w' => e = .returned (.iface 37 (.float .f64 a)) ∧ Below w.heap.size w w' := by
  go_enter Tryz.func70, Tryz.ntmps70
  go_wp2
  go_ret
  exact ⟨rfl, by go_grown⟩
theorem zzcompare_ff (a b : Nat) (w : World) : Calls Tryz.prog 53 #[.agg #[.int .i64 3, .bool false, .int .i64 0, .float .f64 a, .string ByteArray.empty, .slice none 0 0], .agg #[.int .i64 3, .bool false, .int .i64 0, .float .f64 b, .string ByteArray.empty, .slice none 0 0]] w
    fun e w' => e = .returned (.int .i64 (cmpF a b)) ∧ Below w.heap.size w w' := by
  have CF := fun W => (compare_ff a b W).mono (fun e w' h => (⟨h.1, h.2 ▸ Below.refl _ _⟩ : e = .returned (.int .i64 (cmpF a b)) ∧ Below W.heap.size W w'))
  go_enter Tryz.func53, Tryz.ntmps53
  go_wp2_with fail
  have cr := cell_rg
  refine wp_region_quiet_below (by kernel_rfl) (by kernel_rfl) ?_
  repeat (quiet_step (first | (go_at_call 70; exact Calls.regrown_of (toany_f _ _)) | (go_at_call 69; exact Calls.regrown_of (CF _))))
  refine wpQuiet_nil ?_
  intro _ hw'
  obtain ⟨⟨dq, osq⟩, hw''⟩ := hw'
  subst hw''
  go_wp2
  go_ret
  exact ⟨rfl, Below.trans (by go_grown) ((below_regrown _ dq osq).mono (by first | (simp; done) | (simp; omega)))⟩
set_option maxHeartbeats 1000000 in
theorem ltc_A1tt (a b c : Nat) (h1 : ltB a a = false) (h2 : (FloatKind.f64.format.order a a != some .eq) = false) (h3 : (FloatKind.f64.format.order a a == some .eq) = true) (h4 : (FloatKind.f64.format.order b b == some .eq) = true) (h6 : ltB b a = false) (h7 : (FloatKind.f64.format.order a b == some .eq) = false) (h5 : ltB a b = true) (h10 : (cmpF a b == -1) = true) (h8 : ltB b c = true) (h9 : ltB a c = true) (w : World) :
    Calls Tryz.prog 15 #[.float .f64 a, .float .f64 b, .float .f64 c] w fun e w' => e = .returned (.bool true) ∧ Below w.heap.size w w' := by
  go_enter Tryz.func15, Tryz.ntmps15
  go_wp2_with (first | (go_at_call 52; refine (zzlt_any _ _ _).mono ?_; rintro e w' ⟨rfl, rfl⟩) | (go_at_call 53; refine (zzcompare_ff _ _ _).mono ?_; rintro e w1 ⟨rfl, hb1⟩))
  go_ret
  refine ⟨rfl, Below.trans ?_ (hb1.mono (by first | (simp; done) | (simp; omega)))⟩
  repeat (first | exact Below.refl _ _ | refine Below.drew ?_ | refine Below.alloc ?_ (by first | (simp; done) | (simp; omega)) _)
set_option maxHeartbeats 1000000 in
theorem ltc_A1tf (a b c : Nat) (h1 : ltB a a = false) (h2 : (FloatKind.f64.format.order a a != some .eq) = false) (h3 : (FloatKind.f64.format.order a a == some .eq) = true) (h4 : (FloatKind.f64.format.order b b == some .eq) = true) (h6 : ltB b a = false) (h7 : (FloatKind.f64.format.order a b == some .eq) = false) (h5 : ltB a b = true) (h10 : (cmpF a b == -1) = true) (h8 : ltB b c = false) (w : World) :
    Calls Tryz.prog 15 #[.float .f64 a, .float .f64 b, .float .f64 c] w fun e w' => e = .returned (.bool true) ∧ Below w.heap.size w w' := by
  go_enter Tryz.func15, Tryz.ntmps15
  go_wp2_with (first | (go_at_call 52; refine (zzlt_any _ _ _).mono ?_; rintro e w' ⟨rfl, rfl⟩) | (go_at_call 53; refine (zzcompare_ff _ _ _).mono ?_; rintro e w1 ⟨rfl, hb1⟩))
  go_ret
  refine ⟨rfl, Below.trans ?_ (hb1.mono (by first | (simp; done) | (simp; omega)))⟩
  repeat (first | exact Below.refl _ _ | refine Below.drew ?_ | refine Below.alloc ?_ (by first | (simp; done) | (simp; omega)) _)
set_option maxHeartbeats 1000000 in
theorem ltc_A2 (a b c : Nat) (h1 : ltB a a = false) (h2 : (FloatKind.f64.format.order a a != some .eq) = false) (h3 : (FloatKind.f64.format.order a a == some .eq) = true) (h4 : (FloatKind.f64.format.order b b == some .eq) = true) (h6 : ltB b a = true) (h7 : (FloatKind.f64.format.order a b == some .eq) = false) (h5 : ltB a b = false) (h10 : (cmpF a b == -1) = false) (w : World) :
    Calls Tryz.prog 15 #[.float .f64 a, .float .f64 b, .float .f64 c] w fun e w' => e = .returned (.bool true) ∧ Below w.heap.size w w' := by
  go_enter Tryz.func15, Tryz.ntmps15
  go_wp2_with (first | (go_at_call 52; refine (zzlt_any _ _ _).mono ?_; rintro e w' ⟨rfl, rfl⟩) | (go_at_call 53; refine (zzcompare_ff _ _ _).mono ?_; rintro e w1 ⟨rfl, hb1⟩))
  go_ret
  refine ⟨rfl, Below.trans ?_ (hb1.mono (by first | (simp; done) | (simp; omega)))⟩
  repeat (first | exact Below.refl _ _ | refine Below.drew ?_ | refine Below.alloc ?_ (by first | (simp; done) | (simp; omega)) _)
set_option maxHeartbeats 1000000 in
theorem ltc_A3 (a b c : Nat) (h1 : ltB a a = false) (h2 : (FloatKind.f64.format.order a a != some .eq) = false) (h3 : (FloatKind.f64.format.order a a == some .eq) = true) (h4 : (FloatKind.f64.format.order b b == some .eq) = true) (h6 : ltB b a = false) (h7 : (FloatKind.f64.format.order a b == some .eq) = true) (h5 : ltB a b = false) (h10 : (cmpF a b == -1) = false) (w : World) :
    Calls Tryz.prog 15 #[.float .f64 a, .float .f64 b, .float .f64 c] w fun e w' => e = .returned (.bool true) ∧ Below w.heap.size w w' := by
  go_enter Tryz.func15, Tryz.ntmps15
  go_wp2_with (first | (go_at_call 52; refine (zzlt_any _ _ _).mono ?_; rintro e w' ⟨rfl, rfl⟩) | (go_at_call 53; refine (zzcompare_ff _ _ _).mono ?_; rintro e w1 ⟨rfl, hb1⟩))
  go_ret
  refine ⟨rfl, Below.trans ?_ (hb1.mono (by first | (simp; done) | (simp; omega)))⟩
  repeat (first | exact Below.refl _ _ | refine Below.drew ?_ | refine Below.alloc ?_ (by first | (simp; done) | (simp; omega)) _)
set_option maxHeartbeats 1000000 in
theorem ltc_Btt (a b c : Nat) (h1 : ltB a a = false) (h2 : (FloatKind.f64.format.order a a != some .eq) = false) (h3 : (FloatKind.f64.format.order a a == some .eq) = true) (h4 : (FloatKind.f64.format.order b b == some .eq) = false) (h5 : ltB a b = true) (h10 : (cmpF a b == -1) = true) (h8 : ltB b c = true) (h9 : ltB a c = true) (w : World) :
    Calls Tryz.prog 15 #[.float .f64 a, .float .f64 b, .float .f64 c] w fun e w' => e = .returned (.bool true) ∧ Below w.heap.size w w' := by
  go_enter Tryz.func15, Tryz.ntmps15
  go_wp2_with (first | (go_at_call 52; refine (zzlt_any _ _ _).mono ?_; rintro e w' ⟨rfl, rfl⟩) | (go_at_call 53; refine (zzcompare_ff _ _ _).mono ?_; rintro e w1 ⟨rfl, hb1⟩))
  go_ret
  refine ⟨rfl, Below.trans ?_ (hb1.mono (by first | (simp; done) | (simp; omega)))⟩
  repeat (first | exact Below.refl _ _ | refine Below.drew ?_ | refine Below.alloc ?_ (by first | (simp; done) | (simp; omega)) _)
set_option maxHeartbeats 1000000 in
theorem ltc_Ctt (a b c : Nat) (h1 : ltB a a = true) (h2 : (FloatKind.f64.format.order a a != some .eq) = true) (h3 : (FloatKind.f64.format.order a a == some .eq) = false) (h5 : ltB a b = true) (h10 : (cmpF a b == -1) = true) (h8 : ltB b c = true) (h9 : ltB a c = true) (w : World) :
    Calls Tryz.prog 15 #[.float .f64 a, .float .f64 b, .float .f64 c] w fun e w' => e = .returned (.bool true) ∧ Below w.heap.size w w' := by
  go_enter Tryz.func15, Tryz.ntmps15
  go_wp2_with (first | (go_at_call 52; refine (zzlt_any _ _ _).mono ?_; rintro e w' ⟨rfl, rfl⟩) | (go_at_call 53; refine (zzcompare_ff _ _ _).mono ?_; rintro e w1 ⟨rfl, hb1⟩))
  go_ret
  refine ⟨rfl, Below.trans ?_ (hb1.mono (by first | (simp; done) | (simp; omega)))⟩
  repeat (first | exact Below.refl _ _ | refine Below.drew ?_ | refine Below.alloc ?_ (by first | (simp; done) | (simp; omega)) _)
set_option maxHeartbeats 1000000 in
theorem ltc_Btf (a b c : Nat) (h1 : ltB a a = false) (h2 : (FloatKind.f64.format.order a a != some .eq) = false) (h3 : (FloatKind.f64.format.order a a == some .eq) = true) (h4 : (FloatKind.f64.format.order b b == some .eq) = false) (h5 : ltB a b = true) (h10 : (cmpF a b == -1) = true) (h8 : ltB b c = false) (w : World) :
    Calls Tryz.prog 15 #[.float .f64 a, .float .f64 b, .float .f64 c] w fun e w' => e = .returned (.bool true) ∧ Below w.heap.size w w' := by
  go_enter Tryz.func15, Tryz.ntmps15
  go_wp2_with (first | (go_at_call 52; refine (zzlt_any _ _ _).mono ?_; rintro e w' ⟨rfl, rfl⟩) | (go_at_call 53; refine (zzcompare_ff _ _ _).mono ?_; rintro e w1 ⟨rfl, hb1⟩))
  go_ret
  refine ⟨rfl, Below.trans ?_ (hb1.mono (by first | (simp; done) | (simp; omega)))⟩
  repeat (first | exact Below.refl _ _ | refine Below.drew ?_ | refine Below.alloc ?_ (by first | (simp; done) | (simp; omega)) _)
set_option maxHeartbeats 1000000 in
theorem ltc_Ctf (a b c : Nat) (h1 : ltB a a = true) (h2 : (FloatKind.f64.format.order a a != some .eq) = true) (h3 : (FloatKind.f64.format.order a a == some .eq) = false) (h5 : ltB a b = true) (h10 : (cmpF a b == -1) = true) (h8 : ltB b c = false) (w : World) :
    Calls Tryz.prog 15 #[.float .f64 a, .float .f64 b, .float .f64 c] w fun e w' => e = .returned (.bool true) ∧ Below w.heap.size w w' := by
  go_enter Tryz.func15, Tryz.ntmps15
  go_wp2_with (first | (go_at_call 52; refine (zzlt_any _ _ _).mono ?_; rintro e w' ⟨rfl, rfl⟩) | (go_at_call 53; refine (zzcompare_ff _ _ _).mono ?_; rintro e w1 ⟨rfl, hb1⟩))
  go_ret
  refine ⟨rfl, Below.trans ?_ (hb1.mono (by first | (simp; done) | (simp; omega)))⟩
  repeat (first | exact Below.refl _ _ | refine Below.drew ?_ | refine Below.alloc ?_ (by first | (simp; done) | (simp; omega)) _)
set_option maxHeartbeats 1000000 in
theorem ltc_Bf (a b c : Nat) (h1 : ltB a a = false) (h2 : (FloatKind.f64.format.order a a != some .eq) = false) (h3 : (FloatKind.f64.format.order a a == some .eq) = true) (h4 : (FloatKind.f64.format.order b b == some .eq) = false) (h5 : ltB a b = false) (h10 : (cmpF a b == -1) = false) (w : World) :
    Calls Tryz.prog 15 #[.float .f64 a, .float .f64 b, .float .f64 c] w fun e w' => e = .returned (.bool true) ∧ Below w.heap.size w w' := by
  go_enter Tryz.func15, Tryz.ntmps15
  go_wp2_with (first | (go_at_call 52; refine (zzlt_any _ _ _).mono ?_; rintro e w' ⟨rfl, rfl⟩) | (go_at_call 53; refine (zzcompare_ff _ _ _).mono ?_; rintro e w1 ⟨rfl, hb1⟩))
  go_ret
  refine ⟨rfl, Below.trans ?_ (hb1.mono (by first | (simp; done) | (simp; omega)))⟩
  repeat (first | exact Below.refl _ _ | refine Below.drew ?_ | refine Below.alloc ?_ (by first | (simp; done) | (simp; omega)) _)
set_option maxHeartbeats 1000000 in
theorem ltc_Cf (a b c : Nat) (h1 : ltB a a = true) (h2 : (FloatKind.f64.format.order a a != some .eq) = true) (h3 : (FloatKind.f64.format.order a a == some .eq) = false) (h5 : ltB a b = false) (h10 : (cmpF a b == -1) = false) (w : World) :
    Calls Tryz.prog 15 #[.float .f64 a, .float .f64 b, .float .f64 c] w fun e w' => e = .returned (.bool true) ∧ Below w.heap.size w w' := by
  go_enter Tryz.func15, Tryz.ntmps15
  go_wp2_with (first | (go_at_call 52; refine (zzlt_any _ _ _).mono ?_; rintro e w' ⟨rfl, rfl⟩) | (go_at_call 53; refine (zzcompare_ff _ _ _).mono ?_; rintro e w1 ⟨rfl, hb1⟩))
  go_ret
  refine ⟨rfl, Below.trans ?_ (hb1.mono (by first | (simp; done) | (simp; omega)))⟩
  repeat (first | exact Below.refl _ _ | refine Below.drew ?_ | refine Below.alloc ?_ (by first | (simp; done) | (simp; omega)) _)
theorem walk_FnLtOrderAgreesWithCompare (a : Nat) (_wa : (Lit.float .f64 a).wf = true) (b : Nat) (_wb : (Lit.float .f64 b).wf = true) (c : Nat) (_wc : (Lit.float .f64 c).wf = true) (w : World) :
    Calls Tryz.prog 15 #[.float .f64 a, .float .f64 b, .float .f64 c] w fun e w' => e = .returned (.bool true) ∧ Below w.heap.size w w' := by
  have k1 := ltB_eq a a
  have k2 := nan_test a
  have k3 := eqB_eq a a
  have k4 := eqB_eq b b
  have k5 := ltB_eq a b
  have k6 := ltB_eq b a
  have k7 := eqB_eq a b
  have k8 := ltB_eq b c
  have k9 := ltB_eq a c
  have k10 : (cmpF a b == -1) = ltB a b := by
    unfold cmpF
    cases ltB a b
    · cases (FloatKind.f64.format.order a b == some .eq) <;> rfl
    · rfl
  cases na : FloatKey.isNaN a
  · rw [na] at k1 k2 k3 k5 k7 k9
    have e1 : ltB a a = false := by rw [k1]; simp
    have e3 : (FloatKind.f64.format.order a a == some .eq) = true := by rw [k3]; simp
    have tr : ltB a b = true → ltB b c = true → ltB a c = true := by
      rw [k5, k8, k9]
      cases FloatKey.isNaN b <;> cases FloatKey.isNaN c <;> simp
      intro p q; omega
    cases nb : FloatKey.isNaN b
    · rw [nb] at k4 k5 k6 k7
      have e4 : (FloatKind.f64.format.order b b == some .eq) = true := by rw [k4]; simp
      rcases Int.lt_trichotomy (FloatKey.key a) (FloatKey.key b) with h | h | h
      · have e5 : ltB a b = true := by rw [k5]; simp; omega
        have e6 : ltB b a = false := by rw [k6, na]; simp; omega
        have e7 : (FloatKind.f64.format.order a b == some .eq) = false := by rw [k7]; simp; omega
        cases e8 : ltB b c
        · exact ltc_A1tf a b c e1 k2 e3 e4 e6 e7 e5 (k10.trans e5) e8 w
        · exact ltc_A1tt a b c e1 k2 e3 e4 e6 e7 e5 (k10.trans e5) e8 (tr e5 e8) w
      · have e5 : ltB a b = false := by rw [k5]; simp; omega
        have e6 : ltB b a = false := by rw [k6, na]; simp; omega
        have e7 : (FloatKind.f64.format.order a b == some .eq) = true := by rw [k7]; simp; omega
        exact ltc_A3 a b c e1 k2 e3 e4 e6 e7 e5 (k10.trans e5) w
      · have e5 : ltB a b = false := by rw [k5]; simp; omega
        have e6 : ltB b a = true := by rw [k6, na]; simp; omega
        have e7 : (FloatKind.f64.format.order a b == some .eq) = false := by rw [k7]; simp; omega
        exact ltc_A2 a b c e1 k2 e3 e4 e6 e7 e5 (k10.trans e5) w
    · rw [nb] at k4
      have e4 : (FloatKind.f64.format.order b b == some .eq) = false := by rw [k4]; simp
      cases e5 : ltB a b
      · exact ltc_Bf a b c e1 k2 e3 e4 e5 (k10.trans e5) w
      · cases e8 : ltB b c
        · exact ltc_Btf a b c e1 k2 e3 e4 e5 (k10.trans e5) e8 w
        · exact ltc_Btt a b c e1 k2 e3 e4 e5 (k10.trans e5) e8 (tr e5 e8) w
  · rw [na] at k1 k2 k3 k9
    have e1 : ltB a a = true := by rw [k1]; simp
    have e3 : (FloatKind.f64.format.order a a == some .eq) = false := by rw [k3]; simp
    have e9 : ltB a c = true := by rw [k9]; simp
    cases e5 : ltB a b
    · exact ltc_Cf a b c e1 k2 e3 e5 (k10.trans e5) w
    · cases e8 : ltB b c
      · exact ltc_Ctf a b c e1 k2 e3 e5 (k10.trans e5) e8 w
      · exact ltc_Ctt a b c e1 k2 e3 e5 (k10.trans e5) e8 e9 w
end Go.Proofs.YtclopknkophfkaaGreatDoor
