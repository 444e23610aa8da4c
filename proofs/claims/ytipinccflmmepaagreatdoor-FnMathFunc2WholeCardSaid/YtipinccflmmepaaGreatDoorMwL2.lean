/- FnMathFunc2Whole's walk. -/
import Derived.Test.YtipinccflmmepaaGreatDoorMwF2
import Derived.Test.YtipinccflmmepaaGreatDoorMwL1
namespace Go.Proofs.YtipinccflmmepaaGreatDoor
open Go.RowKit Go.Deep

set_option maxRecDepth 100000 in
set_option maxHeartbeats 8000000 in
theorem walk_FnMathFunc2Whole (name : ByteArray) (_wname : name.size ≤ maxLen) (ta : ByteArray) (_wta : ta.size ≤ maxLen) (tb : ByteArray) (_wtb : tb.size ≤ maxLen) (kv : Int) (wkv : (Lit.int .u8 kv).wf = true) (xv : Nat) (_wxv : (Lit.float .f64 xv).wf = true) (nv : Int) (wnv : (Lit.int .i64 nv).wf = true) (ka : Int) (wka : (Lit.int .u8 ka).wf = true) (xa : Nat) (_wxa : (Lit.float .f64 xa).wf = true) (na : Int) (wna : (Lit.int .i64 na).wf = true) (kb : Int) (wkb : (Lit.int .u8 kb).wf = true) (xb : Nat) (_wxb : (Lit.float .f64 xb).wf = true) (nb : Int) (wnb : (Lit.int .i64 nb).wf = true) (W : World) (hp : PfW W) :
    Calls Tryz.prog 4 #[.string name, .string ta, .string tb, .int .u8 kv, .float .f64 xv, .int .i64 nv, .int .u8 ka, .float .f64 xa, .int .i64 na, .int .u8 kb, .float .f64 xb, .int .i64 nb] W fun e w' => e = .returned (.bool true) ∧ Below W.heap.size W w' := by
  have bkv := u8_bd wkv
  have bnv := i64_bd wnv
  have bka := u8_bd wka
  have bna := i64_bd wna
  have bkb := u8_bd wkb
  have bnb := i64_bd wnb
  clear _wname _wta _wtb wkv _wxv wnv wka _wxa wna wkb _wxb wnb
  obtain ⟨dV, hdV, ldV⟩ := kd_lt kv
  obtain ⟨dA, hdA, ldA⟩ := kd_lt ka
  obtain ⟨dB, hdB, ldB⟩ := kd_lt kb
  by_cases c0 : (1048576 : Int) < name.size
  · go_enter Tryz.func4, Tryz.ntmps4
    go_wp2_with go_in
    go_ret
    exact ⟨rfl, by first | exact Below.refl _ _ | go_grown⟩
  by_cases c1 : (1048576 : Int) < ta.size
  · go_enter Tryz.func4, Tryz.ntmps4
    go_wp2_with go_in
    go_ret
    exact ⟨rfl, by first | exact Below.refl _ _ | go_grown⟩
  by_cases c2 : (1048576 : Int) < (name.size : Int) + ta.size
  · go_enter Tryz.func4, Tryz.ntmps4
    go_wp2_with go_in
    go_ret
    exact ⟨rfl, by first | exact Below.refl _ _ | go_grown⟩
  by_cases c3 : (1048576 : Int) < tb.size
  · go_enter Tryz.func4, Tryz.ntmps4
    go_wp2_with go_in
    go_ret
    exact ⟨rfl, by first | exact Below.refl _ _ | go_grown⟩
  by_cases c4 : (1048576 : Int) < (name.size : Int) + ta.size + tb.size
  · go_enter Tryz.func4, Tryz.ntmps4
    go_wp2_with go_in
    go_ret
    exact ⟨rfl, by first | exact Below.refl _ _ | go_grown⟩
  have c99 : True := trivial
  have HMV : Hid (∀ w, Calls Tryz.prog 10 #[.int .u8 kv, .float .f64 xv, .int .i64 nv, .string name] w fun e w' => e = .returned (argV dV xv nv name) ∧ Below w.heap.size w w') := Lib.hid (fun w => mk_any kv bkv.1 bkv.2 dV hdV xv nv bnv name w)
  have HMA : Hid (∀ w, Calls Tryz.prog 10 #[.int .u8 ka, .float .f64 xa, .int .i64 na, .string ta] w fun e w' => e = .returned (argV dA xa na ta) ∧ Below w.heap.size w w') := Lib.hid (fun w => mk_any ka bka.1 bka.2 dA hdA xa na bna ta w)
  have HMB : Hid (∀ w, Calls Tryz.prog 10 #[.int .u8 kb, .float .f64 xb, .int .i64 nb, .string tb] w fun e w' => e = .returned (argV dB xb nb tb) ∧ Below w.heap.size w w') := Lib.hid (fun w => mk_any kb bkb.1 bkb.2 dB hdB xb nb bnb tb w)
  have HZ : Hid (∀ w, PfW w → Calls Tryz.prog 15 #[.string name, .func (.func 16) #[] #[], argV dV xv nv name, argV dA xa na ta, argV dB xb nb tb] w fun e w' => OutK2 name (resOf dA xa na ta fun pA => (resOf dB xb nb tb fun pB => .num (Arith .sub pA pB))) e ∧ Below w.heap.size w w') := Lib.hid (fun w h => zz2_any name ⟨dV, xv, nv, name, ldV, bnv⟩ ⟨dA, xa, na, ta, ldA, bna⟩ ⟨dB, xb, nb, tb, ldB, bnb⟩ w h)
  obtain ⟨vV, hvV⟩ : ∃ v, argV dV xv nv name = v := ⟨_, rfl⟩
  rw [hvV] at HMV HZ
  clear hvV
  obtain ⟨vA, hvA⟩ : ∃ v, argV dA xa na ta = v := ⟨_, rfl⟩
  rw [hvA] at HMA HZ
  clear hvA
  obtain ⟨vB, hvB⟩ : ∃ v, argV dB xb nb tb = v := ⟨_, rfl⟩
  rw [hvB] at HMB HZ
  clear hvB
  have hp0 := hp
  by_cases gA : dA < 3
  · have HNA : Hid (∀ w, Calls Tryz.prog 11 #[.int .u8 ka, .float .f64 xa, .int .i64 na] w fun e w' => e = .returned (.tuple #[.float .f64 (fOf dA xa na), .bool true]) ∧ w = w') := Lib.hid (fun w => num_any2 ka bka.1 dA hdA xa na _ true rfl (decide_eq_true gA) w)
    rw [resOf_ok gA] at HZ
    obtain ⟨fA, hfA⟩ : ∃ f, fOf dA xa na = f := ⟨_, rfl⟩
    rw [hfA] at HNA HZ
    clear hfA
    by_cases gB : dB < 3
    · have HNB : Hid (∀ w, Calls Tryz.prog 11 #[.int .u8 kb, .float .f64 xb, .int .i64 nb] w fun e w' => e = .returned (.tuple #[.float .f64 (fOf dB xb nb), .bool true]) ∧ w = w') := Lib.hid (fun w => num_any2 kb bkb.1 dB hdB xb nb _ true rfl (decide_eq_true gB) w)
      rw [resOf_ok gB] at HZ
      obtain ⟨fB, hfB⟩ : ∃ f, fOf dB xb nb = f := ⟨_, rfl⟩
      rw [hfB] at HNB HZ
      clear hfB
      cases h : floatBits .sub .f64 fA fB with
      | some d =>
        have k1 := fun (t : TypeId) w => run_float_arith (P := Tryz.prog) w .sub t .f64 fA fB d h
        go_enter Tryz.func4, Tryz.ntmps4
        go_wp2_with (first | (go_at_call 10; (with_reducible refine (HMV.out _).mono ?_); rintro e w1 ⟨rfl, hb1⟩; have HB1 := Lib.hid (hb1); have hp1 := hp0.later hb1; clear hb1) | (go_at_call 10; (with_reducible refine (HMA.out _).mono ?_); rintro e w2 ⟨rfl, hb2⟩; have HB2 := Lib.hid (HB1.out.trans (hb2.mono HB1.out.size)); have hp2 := hp1.later hb2; clear hb2) | (go_at_call 10; (with_reducible refine (HMB.out _).mono ?_); rintro e w3 ⟨rfl, hb3⟩; have HB3 := Lib.hid (HB2.out.trans (hb3.mono HB2.out.size)); have hp3 := hp2.later hb3; clear hb3) | (go_at_call 15; (with_reducible refine (HZ.out _ hp3).mono ?_); rintro e w4 ⟨ho, hb4⟩; have HB4 := Lib.hid (HB3.out.trans (hb4.mono HB3.out.size)); clear hb4; obtain ⟨a, q, c, s, k2, s2, rfl, hok⟩ := ho; obtain ⟨b, hR, hV⟩ := hok; obtain ⟨rfl, rfl, rfl, rfl, rfl, rfl⟩ := agg_inj hV; have HR := Lib.hid hR; clear hR hV) | (go_at_call 11; (with_reducible refine (HNA.out _).mono ?_); rintro e w9 ⟨rfl, rfl⟩) | (go_at_call 11; (with_reducible refine (HNB.out _).mono ?_); rintro e w9 ⟨rfl, rfl⟩) | (go_at_call 13; refine (got_any _ _ (Arith.same HR.out (.inl h)) _).mono ?_; rintro e w8 ⟨rfl, hb8⟩) | go_in)
        go_ret
        exact ⟨rfl, HB4.out.trans (Below.trans (by first | exact (Below.refl _ _).mono HB4.out.size | exact ((Below.refl _ _).alloc (Nat.le_refl _) _).mono HB4.out.size | exact (((Below.refl _ _).alloc (Nat.le_refl _) _).drew).mono HB4.out.size | exact (((Below.refl _ _).alloc (Nat.le_refl _) _).drew.drew).mono HB4.out.size) (hb8.mono (by have := HB4.out.size; first | omega | (simp; omega))))⟩
      | none =>
        have k1 := fun (t : TypeId) w => Str.run_float_none (P := Tryz.prog) w .sub t fA fB (.inr (.inl rfl)) h
        go_enter Tryz.func4, Tryz.ntmps4
        go_wp2_with (first | (go_at_call 10; (with_reducible refine (HMV.out _).mono ?_); rintro e w1 ⟨rfl, hb1⟩; have HB1 := Lib.hid (hb1); have hp1 := hp0.later hb1; clear hb1) | (go_at_call 10; (with_reducible refine (HMA.out _).mono ?_); rintro e w2 ⟨rfl, hb2⟩; have HB2 := Lib.hid (HB1.out.trans (hb2.mono HB1.out.size)); have hp2 := hp1.later hb2; clear hb2) | (go_at_call 10; (with_reducible refine (HMB.out _).mono ?_); rintro e w3 ⟨rfl, hb3⟩; have HB3 := Lib.hid (HB2.out.trans (hb3.mono HB2.out.size)); have hp3 := hp2.later hb3; clear hb3) | (go_at_call 15; (with_reducible refine (HZ.out _ hp3).mono ?_); rintro e w4 ⟨ho, hb4⟩; have HB4 := Lib.hid (HB3.out.trans (hb4.mono HB3.out.size)); clear hb4; obtain ⟨a, q, c, s, k2, s2, rfl, hok⟩ := ho; obtain ⟨b, hR, hV⟩ := hok; obtain ⟨rfl, rfl, rfl, rfl, rfl, rfl⟩ := agg_inj hV; have HR := Lib.hid hR; clear hR hV) | (go_at_call 11; (with_reducible refine (HNA.out _).mono ?_); rintro e w9 ⟨rfl, rfl⟩) | (go_at_call 11; (with_reducible refine (HNB.out _).mono ?_); rintro e w9 ⟨rfl, rfl⟩) | (go_at_call 13; refine (got_any _ _ (Arith.same HR.out (.inr ⟨h, nan_isNaN _ _ _⟩)) _).mono ?_; rintro e w8 ⟨rfl, hb8⟩) | go_in)
        go_ret
        exact ⟨rfl, HB4.out.trans (Below.trans (by first | exact (Below.refl _ _).mono HB4.out.size | exact ((Below.refl _ _).alloc (Nat.le_refl _) _).mono HB4.out.size | exact (((Below.refl _ _).alloc (Nat.le_refl _) _).drew).mono HB4.out.size | exact (((Below.refl _ _).alloc (Nat.le_refl _) _).drew.drew).mono HB4.out.size) (hb8.mono (by have := HB4.out.size; first | omega | (simp; omega))))⟩
    · have HNB : Hid (∀ w, Calls Tryz.prog 11 #[.int .u8 kb, .float .f64 xb, .int .i64 nb] w fun e w' => e = .returned (.tuple #[.float .f64 (fOf dB xb nb), .bool false]) ∧ w = w') := Lib.hid (fun w => num_any2 kb bkb.1 dB hdB xb nb _ false rfl (decide_eq_false gB) w)
      rw [resOf_bad gB] at HZ
      obtain ⟨fB, hfB⟩ : ∃ f, fOf dB xb nb = f := ⟨_, rfl⟩
      rw [hfB] at HNB
      clear hfB
      have HRF := Lib.hid (fun a q c s k2 s2 h w => ref_any name tb kb bkb.1 dB hdB gB a q c s k2 s2 h w)
      go_enter Tryz.func4, Tryz.ntmps4
      go_wp2_with (first | (go_at_call 10; (with_reducible refine (HMV.out _).mono ?_); rintro e w1 ⟨rfl, hb1⟩; have HB1 := Lib.hid (hb1); have hp1 := hp0.later hb1; clear hb1) | (go_at_call 10; (with_reducible refine (HMA.out _).mono ?_); rintro e w2 ⟨rfl, hb2⟩; have HB2 := Lib.hid (HB1.out.trans (hb2.mono HB1.out.size)); have hp2 := hp1.later hb2; clear hb2) | (go_at_call 10; (with_reducible refine (HMB.out _).mono ?_); rintro e w3 ⟨rfl, hb3⟩; have HB3 := Lib.hid (HB2.out.trans (hb3.mono HB2.out.size)); have hp3 := hp2.later hb3; clear hb3) | (go_at_call 15; (with_reducible refine (HZ.out _ hp3).mono ?_); rintro e w4 ⟨ho, hb4⟩; have HB4 := Lib.hid (HB3.out.trans (hb4.mono HB3.out.size)); clear hb4; obtain ⟨a, q, c, s, k2, s2, rfl, hok⟩ := ho; have HOK := Lib.hid hok; clear hok) | (go_at_call 11; (with_reducible refine (HNA.out _).mono ?_); rintro e w9 ⟨rfl, rfl⟩) | (go_at_call 11; (with_reducible refine (HNB.out _).mono ?_); rintro e w9 ⟨rfl, rfl⟩) | (go_at_call 12; refine (HRF.out _ _ _ _ _ _ HOK.out _).mono ?_; rintro e w8 ⟨rfl, hb8⟩) | go_in)
      go_ret
      exact ⟨rfl, HB4.out.trans (Below.trans (by first | exact (Below.refl _ _).mono HB4.out.size | exact ((Below.refl _ _).alloc (Nat.le_refl _) _).mono HB4.out.size | exact (((Below.refl _ _).alloc (Nat.le_refl _) _).drew).mono HB4.out.size | exact (((Below.refl _ _).alloc (Nat.le_refl _) _).drew.drew).mono HB4.out.size) (hb8.mono (by have := HB4.out.size; first | omega | (simp; omega))))⟩
  · have HNA : Hid (∀ w, Calls Tryz.prog 11 #[.int .u8 ka, .float .f64 xa, .int .i64 na] w fun e w' => e = .returned (.tuple #[.float .f64 (fOf dA xa na), .bool false]) ∧ w = w') := Lib.hid (fun w => num_any2 ka bka.1 dA hdA xa na _ false rfl (decide_eq_false gA) w)
    rw [resOf_bad gA] at HZ
    obtain ⟨fA, hfA⟩ : ∃ f, fOf dA xa na = f := ⟨_, rfl⟩
    rw [hfA] at HNA
    clear hfA
    have HRF := Lib.hid (fun a q c s k2 s2 h w => ref_any name ta ka bka.1 dA hdA gA a q c s k2 s2 h w)
    go_enter Tryz.func4, Tryz.ntmps4
    go_wp2_with (first | (go_at_call 10; (with_reducible refine (HMV.out _).mono ?_); rintro e w1 ⟨rfl, hb1⟩; have HB1 := Lib.hid (hb1); have hp1 := hp0.later hb1; clear hb1) | (go_at_call 10; (with_reducible refine (HMA.out _).mono ?_); rintro e w2 ⟨rfl, hb2⟩; have HB2 := Lib.hid (HB1.out.trans (hb2.mono HB1.out.size)); have hp2 := hp1.later hb2; clear hb2) | (go_at_call 10; (with_reducible refine (HMB.out _).mono ?_); rintro e w3 ⟨rfl, hb3⟩; have HB3 := Lib.hid (HB2.out.trans (hb3.mono HB2.out.size)); have hp3 := hp2.later hb3; clear hb3) | (go_at_call 15; (with_reducible refine (HZ.out _ hp3).mono ?_); rintro e w4 ⟨ho, hb4⟩; have HB4 := Lib.hid (HB3.out.trans (hb4.mono HB3.out.size)); clear hb4; obtain ⟨a, q, c, s, k2, s2, rfl, hok⟩ := ho; have HOK := Lib.hid hok; clear hok) | (go_at_call 11; (with_reducible refine (HNA.out _).mono ?_); rintro e w9 ⟨rfl, rfl⟩) | (go_at_call 12; refine (HRF.out _ _ _ _ _ _ HOK.out _).mono ?_; rintro e w8 ⟨rfl, hb8⟩) | go_in)
    go_ret
    exact ⟨rfl, HB4.out.trans (Below.trans (by first | exact (Below.refl _ _).mono HB4.out.size | exact ((Below.refl _ _).alloc (Nat.le_refl _) _).mono HB4.out.size | exact (((Below.refl _ _).alloc (Nat.le_refl _) _).drew).mono HB4.out.size | exact (((Below.refl _ _).alloc (Nat.le_refl _) _).drew.drew).mono HB4.out.size) (hb8.mono (by have := HB4.out.size; first | omega | (simp; omega))))⟩
end Go.Proofs.YtipinccflmmepaaGreatDoor
