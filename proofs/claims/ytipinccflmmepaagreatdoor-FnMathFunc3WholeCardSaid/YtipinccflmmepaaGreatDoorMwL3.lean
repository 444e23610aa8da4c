/- FnMathFunc3Whole's walk. -/
import Derived.Test.YtipinccflmmepaaGreatDoorMwF3
import Derived.Test.YtipinccflmmepaaGreatDoorMwL1
namespace Go.Proofs.YtipinccflmmepaaGreatDoor
open Go.RowKit Go.Deep

theorem same3 {x y z b d q : Nat} (h : ∃ d, Arith .sub x y d ∧ Arith .quo d z b) (h1 : Arith .sub x y d) (h2 : Arith .quo d z q) : Same2 b q := by
  obtain ⟨d0, k1, k2⟩ := h
  exact Arith.div (k1.same h1) k2 h2
theorem nan3 {x y z b : Nat} (h : ∃ d, Arith .sub x y d ∧ Arith .quo d z b) (hn : floatBits .sub .f64 x y = none) : FloatKey.isNaN b = true := by
  obtain ⟨d, h1 | ⟨_, h1⟩, h2⟩ := h
  · rw [hn] at h1; cases h1
  · rcases h2 with h2 | ⟨_, h2⟩
    · rw [quo_nan _ _ h1] at h2; cases h2
    · exact h2
set_option maxRecDepth 100000 in
set_option maxHeartbeats 8000000 in
theorem walk_FnMathFunc3Whole (name : ByteArray) (_wname : name.size ≤ maxLen) (t : ByteArray) (_wt : t.size ≤ maxLen) (kv : Int) (wkv : (Lit.int .u8 kv).wf = true) (ka : Int) (wka : (Lit.int .u8 ka).wf = true) (xa : Nat) (_wxa : (Lit.float .f64 xa).wf = true) (na : Int) (wna : (Lit.int .i64 na).wf = true) (kb : Int) (wkb : (Lit.int .u8 kb).wf = true) (xb : Nat) (_wxb : (Lit.float .f64 xb).wf = true) (nb : Int) (wnb : (Lit.int .i64 nb).wf = true) (kc : Int) (wkc : (Lit.int .u8 kc).wf = true) (xc : Nat) (_wxc : (Lit.float .f64 xc).wf = true) (nc : Int) (wnc : (Lit.int .i64 nc).wf = true) (W : World) (hp : PfW W) :
    Calls Tryz.prog 5 #[.string name, .string t, .int .u8 kv, .int .u8 ka, .float .f64 xa, .int .i64 na, .int .u8 kb, .float .f64 xb, .int .i64 nb, .int .u8 kc, .float .f64 xc, .int .i64 nc] W fun e w' => e = .returned (.bool true) ∧ Below W.heap.size W w' := by
  have bkv := u8_bd wkv
  have bka := u8_bd wka
  have bna := i64_bd wna
  have bkb := u8_bd wkb
  have bnb := i64_bd wnb
  have bkc := u8_bd wkc
  have bnc := i64_bd wnc
  clear _wname _wt wkv wka _wxa wna wkb _wxb wnb wkc _wxc wnc
  obtain ⟨dV, hdV, ldV⟩ := kd_lt kv
  obtain ⟨dA, hdA, ldA⟩ := kd_lt ka
  obtain ⟨dB, hdB, ldB⟩ := kd_lt kb
  obtain ⟨dC, hdC, ldC⟩ := kd_lt kc
  by_cases c0 : (1048576 : Int) < name.size
  · go_enter Tryz.func5, Tryz.ntmps5
    go_wp2_with go_in
    go_ret
    exact ⟨rfl, by first | exact Below.refl _ _ | go_grown⟩
  by_cases c1 : (1048576 : Int) < t.size
  · go_enter Tryz.func5, Tryz.ntmps5
    go_wp2_with go_in
    go_ret
    exact ⟨rfl, by first | exact Below.refl _ _ | go_grown⟩
  by_cases c2 : (1048576 : Int) < (name.size : Int) + t.size
  · go_enter Tryz.func5, Tryz.ntmps5
    go_wp2_with go_in
    go_ret
    exact ⟨rfl, by first | exact Below.refl _ _ | go_grown⟩
  have c99 : True := trivial
  obtain ⟨tc, htc⟩ : ∃ s : ByteArray, t ++ ⟨#[124]⟩ ++ name = s := ⟨_, rfl⟩
  have HMV : Hid (∀ w, Calls Tryz.prog 10 #[.int .u8 kv, .float .f64 xb, .int .i64 nc, .string t] w fun e w' => e = .returned (argV dV xb nc t) ∧ Below w.heap.size w w') := Lib.hid (fun w => mk_any kv bkv.1 bkv.2 dV hdV xb nc bnc t w)
  have HMA : Hid (∀ w, Calls Tryz.prog 10 #[.int .u8 ka, .float .f64 xa, .int .i64 na, .string t] w fun e w' => e = .returned (argV dA xa na t) ∧ Below w.heap.size w w') := Lib.hid (fun w => mk_any ka bka.1 bka.2 dA hdA xa na bna t w)
  have HMB : Hid (∀ w, Calls Tryz.prog 10 #[.int .u8 kb, .float .f64 xb, .int .i64 nb, .string name] w fun e w' => e = .returned (argV dB xb nb name) ∧ Below w.heap.size w w') := Lib.hid (fun w => mk_any kb bkb.1 bkb.2 dB hdB xb nb bnb name w)
  have HMC : Hid (∀ w, Calls Tryz.prog 10 #[.int .u8 kc, .float .f64 xc, .int .i64 nc, .string tc] w fun e w' => e = .returned (argV dC xc nc tc) ∧ Below w.heap.size w w') := Lib.hid (fun w => mk_any kc bkc.1 bkc.2 dC hdC xc nc bnc tc w)
  have HZ : Hid (∀ w, PfW w → Calls Tryz.prog 18 #[.string name, .func (.func 19) #[] #[], argV dV xb nc t, argV dA xa na t, argV dB xb nb name, argV dC xc nc tc] w fun e w' => OutK3 name (resOf dA xa na t fun pA => (resOf dB xb nb name fun pB => (resOf dC xc nc tc fun pC => .num (fun q => ∃ d, Arith .sub pA pB d ∧ Arith .quo d pC q)))) e ∧ Below w.heap.size w w') := Lib.hid (fun w h => zz3_any name ⟨dV, xb, nc, t, ldV, bnc⟩ ⟨dA, xa, na, t, ldA, bna⟩ ⟨dB, xb, nb, name, ldB, bnb⟩ ⟨dC, xc, nc, tc, ldC, bnc⟩ w h)
  obtain ⟨vV, hvV⟩ : ∃ v, argV dV xb nc t = v := ⟨_, rfl⟩
  rw [hvV] at HMV HZ
  clear hvV
  obtain ⟨vA, hvA⟩ : ∃ v, argV dA xa na t = v := ⟨_, rfl⟩
  rw [hvA] at HMA HZ
  clear hvA
  obtain ⟨vB, hvB⟩ : ∃ v, argV dB xb nb name = v := ⟨_, rfl⟩
  rw [hvB] at HMB HZ
  clear hvB
  obtain ⟨vC, hvC⟩ : ∃ v, argV dC xc nc tc = v := ⟨_, rfl⟩
  rw [hvC] at HMC HZ
  clear hvC
  have hp0 := hp
  by_cases gA : dA < 3
  · have HNA : Hid (∀ w, Calls Tryz.prog 11 #[.int .u8 ka, .float .f64 xa, .int .i64 na] w fun e w' => e = .returned (.tuple #[.float .f64 (fOf dA xa na), .bool true]) ∧ w = w') := Lib.hid (fun w => num_any2 ka bka.1 dA hdA xa na _ true rfl (decide_eq_true gA) w)
    rw [resOf_ok gA] at HZ
    obtain ⟨fA, hfA⟩ : ∃ f, fOf dA xa na = f := ⟨_, rfl⟩
    rw [hfA] at HNA HZ
    clear hfA
    by_cases gB : dB < 3
    · have HNB : Hid (∀ w, Calls Tryz.prog 11 #[.int .u8 kb, .float .f64 xb, .int .i64 nb] w fun e w' => e = .returned (.tuple #[.float .f64 (fOf dB xb nb), .bool true]) ∧ w = w') := Lib.hid (fun w => num_any2 kb bkb.1 dB hdB xb nb _ true rfl (decide_eq_true gB) w)
      rw [resOf_ok gB] at HZ
      obtain ⟨fB, hfB⟩ : ∃ f, fOf dB xb nb = f := ⟨_, rfl⟩
      rw [hfB] at HNB HZ
      clear hfB
      by_cases gC : dC < 3
      · have HNC : Hid (∀ w, Calls Tryz.prog 11 #[.int .u8 kc, .float .f64 xc, .int .i64 nc] w fun e w' => e = .returned (.tuple #[.float .f64 (fOf dC xc nc), .bool true]) ∧ w = w') := Lib.hid (fun w => num_any2 kc bkc.1 dC hdC xc nc _ true rfl (decide_eq_true gC) w)
        rw [resOf_ok gC] at HZ
        obtain ⟨fC, hfC⟩ : ∃ f, fOf dC xc nc = f := ⟨_, rfl⟩
        rw [hfC] at HNC HZ
        clear hfC
        cases h : floatBits .sub .f64 fA fB with
        | some d =>
          have k1 := fun (t : TypeId) w => run_float_arith (P := Tryz.prog) w .sub t .f64 fA fB d h
          cases h2 : floatBits .quo .f64 d fC with
          | some q9 =>
            have k2 := fun (t : TypeId) w => run_float_arith (P := Tryz.prog) w .quo t .f64 d fC q9 h2
            go_enter Tryz.func5, Tryz.ntmps5
            go_wp2_with (first | (go_at_call 10; (with_reducible refine (HMV.out _).mono ?_); rintro e w1 ⟨rfl, hb1⟩; have HB1 := Lib.hid (hb1); have hp1 := hp0.later hb1; clear hb1) | (go_at_call 10; (with_reducible refine (HMA.out _).mono ?_); rintro e w2 ⟨rfl, hb2⟩; have HB2 := Lib.hid (HB1.out.trans (hb2.mono HB1.out.size)); have hp2 := hp1.later hb2; clear hb2) | (go_at_call 10; (with_reducible refine (HMB.out _).mono ?_); rintro e w3 ⟨rfl, hb3⟩; have HB3 := Lib.hid (HB2.out.trans (hb3.mono HB2.out.size)); have hp3 := hp2.later hb3; clear hb3) | (go_at_call 10; (with_reducible refine (HMC.out _).mono ?_); rintro e w4 ⟨rfl, hb4⟩; have HB4 := Lib.hid (HB3.out.trans (hb4.mono HB3.out.size)); have hp4 := hp3.later hb4; clear hb4) | (go_at_call 18; (with_reducible refine (HZ.out _ hp4).mono ?_); rintro e w5 ⟨ho, hb5⟩; have HB5 := Lib.hid (HB4.out.trans (hb5.mono HB4.out.size)); clear hb5; obtain ⟨a, q, c, s, k2, s2, rfl, hok⟩ := ho; obtain ⟨b, hR, hV⟩ := hok; obtain ⟨rfl, rfl, rfl, rfl, rfl, rfl⟩ := agg_inj hV; have HR := Lib.hid hR; clear hR hV) | (go_at_call 11; (with_reducible refine (HNA.out _).mono ?_); rintro e w9 ⟨rfl, rfl⟩) | (go_at_call 11; (with_reducible refine (HNB.out _).mono ?_); rintro e w9 ⟨rfl, rfl⟩) | (go_at_call 11; (with_reducible refine (HNC.out _).mono ?_); rintro e w9 ⟨rfl, rfl⟩) | (go_at_call 13; refine (got_any _ _ (same3 HR.out (.inl h) (.inl h2)) _).mono ?_; rintro e w8 ⟨rfl, hb8⟩) | go_in)
            go_ret
            exact ⟨rfl, HB5.out.trans (Below.trans (by first | exact (Below.refl _ _).mono HB5.out.size | exact ((Below.refl _ _).alloc (Nat.le_refl _) _).mono HB5.out.size | exact (((Below.refl _ _).alloc (Nat.le_refl _) _).drew).mono HB5.out.size | exact (((Below.refl _ _).alloc (Nat.le_refl _) _).drew.drew).mono HB5.out.size) (hb8.mono (by have := HB5.out.size; first | omega | (simp; omega))))⟩
          | none =>
            have k2 := fun (t : TypeId) w => Str.run_float_none (P := Tryz.prog) w .quo t d fC (.inr (.inr (.inr rfl))) h2
            go_enter Tryz.func5, Tryz.ntmps5
            go_wp2_with (first | (go_at_call 10; (with_reducible refine (HMV.out _).mono ?_); rintro e w1 ⟨rfl, hb1⟩; have HB1 := Lib.hid (hb1); have hp1 := hp0.later hb1; clear hb1) | (go_at_call 10; (with_reducible refine (HMA.out _).mono ?_); rintro e w2 ⟨rfl, hb2⟩; have HB2 := Lib.hid (HB1.out.trans (hb2.mono HB1.out.size)); have hp2 := hp1.later hb2; clear hb2) | (go_at_call 10; (with_reducible refine (HMB.out _).mono ?_); rintro e w3 ⟨rfl, hb3⟩; have HB3 := Lib.hid (HB2.out.trans (hb3.mono HB2.out.size)); have hp3 := hp2.later hb3; clear hb3) | (go_at_call 10; (with_reducible refine (HMC.out _).mono ?_); rintro e w4 ⟨rfl, hb4⟩; have HB4 := Lib.hid (HB3.out.trans (hb4.mono HB3.out.size)); have hp4 := hp3.later hb4; clear hb4) | (go_at_call 18; (with_reducible refine (HZ.out _ hp4).mono ?_); rintro e w5 ⟨ho, hb5⟩; have HB5 := Lib.hid (HB4.out.trans (hb5.mono HB4.out.size)); clear hb5; obtain ⟨a, q, c, s, k2, s2, rfl, hok⟩ := ho; obtain ⟨b, hR, hV⟩ := hok; obtain ⟨rfl, rfl, rfl, rfl, rfl, rfl⟩ := agg_inj hV; have HR := Lib.hid hR; clear hR hV) | (go_at_call 11; (with_reducible refine (HNA.out _).mono ?_); rintro e w9 ⟨rfl, rfl⟩) | (go_at_call 11; (with_reducible refine (HNB.out _).mono ?_); rintro e w9 ⟨rfl, rfl⟩) | (go_at_call 11; (with_reducible refine (HNC.out _).mono ?_); rintro e w9 ⟨rfl, rfl⟩) | (go_at_call 13; refine (got_any _ _ (same3 HR.out (.inl h) (.inr ⟨h2, nan_isNaN _ _ _⟩)) _).mono ?_; rintro e w8 ⟨rfl, hb8⟩) | go_in)
            go_ret
            exact ⟨rfl, HB5.out.trans (Below.trans (by first | exact (Below.refl _ _).mono HB5.out.size | exact ((Below.refl _ _).alloc (Nat.le_refl _) _).mono HB5.out.size | exact (((Below.refl _ _).alloc (Nat.le_refl _) _).drew).mono HB5.out.size | exact (((Below.refl _ _).alloc (Nat.le_refl _) _).drew.drew).mono HB5.out.size) (hb8.mono (by have := HB5.out.size; first | omega | (simp; omega))))⟩
        | none =>
          have k1 := fun (t : TypeId) w => Str.run_float_none (P := Tryz.prog) w .sub t fA fB (.inr (.inl rfl)) h
          have k2 := fun (t : TypeId) (w w2 : World) => Str.run_float_none (P := Tryz.prog) w .quo t (Str.nanAt fA fB w2) fC (.inr (.inr (.inr rfl))) (quo_nan _ _ (nan_isNaN fA fB w2))
          go_enter Tryz.func5, Tryz.ntmps5
          go_wp2_with (first | (go_at_call 10; (with_reducible refine (HMV.out _).mono ?_); rintro e w1 ⟨rfl, hb1⟩; have HB1 := Lib.hid (hb1); have hp1 := hp0.later hb1; clear hb1) | (go_at_call 10; (with_reducible refine (HMA.out _).mono ?_); rintro e w2 ⟨rfl, hb2⟩; have HB2 := Lib.hid (HB1.out.trans (hb2.mono HB1.out.size)); have hp2 := hp1.later hb2; clear hb2) | (go_at_call 10; (with_reducible refine (HMB.out _).mono ?_); rintro e w3 ⟨rfl, hb3⟩; have HB3 := Lib.hid (HB2.out.trans (hb3.mono HB2.out.size)); have hp3 := hp2.later hb3; clear hb3) | (go_at_call 10; (with_reducible refine (HMC.out _).mono ?_); rintro e w4 ⟨rfl, hb4⟩; have HB4 := Lib.hid (HB3.out.trans (hb4.mono HB3.out.size)); have hp4 := hp3.later hb4; clear hb4) | (go_at_call 18; (with_reducible refine (HZ.out _ hp4).mono ?_); rintro e w5 ⟨ho, hb5⟩; have HB5 := Lib.hid (HB4.out.trans (hb5.mono HB4.out.size)); clear hb5; obtain ⟨a, q, c, s, k2, s2, rfl, hok⟩ := ho; obtain ⟨b, hR, hV⟩ := hok; obtain ⟨rfl, rfl, rfl, rfl, rfl, rfl⟩ := agg_inj hV; have HR := Lib.hid hR; clear hR hV) | (go_at_call 11; (with_reducible refine (HNA.out _).mono ?_); rintro e w9 ⟨rfl, rfl⟩) | (go_at_call 11; (with_reducible refine (HNB.out _).mono ?_); rintro e w9 ⟨rfl, rfl⟩) | (go_at_call 11; (with_reducible refine (HNC.out _).mono ?_); rintro e w9 ⟨rfl, rfl⟩) | (go_at_call 13; refine (got_any _ _ (.inr ⟨nan3 HR.out h, nan_isNaN _ _ _⟩) _).mono ?_; rintro e w8 ⟨rfl, hb8⟩) | go_in)
          go_ret
          exact ⟨rfl, HB5.out.trans (Below.trans (by first | exact (Below.refl _ _).mono HB5.out.size | exact ((Below.refl _ _).alloc (Nat.le_refl _) _).mono HB5.out.size | exact (((Below.refl _ _).alloc (Nat.le_refl _) _).drew).mono HB5.out.size | exact (((Below.refl _ _).alloc (Nat.le_refl _) _).drew.drew).mono HB5.out.size) (hb8.mono (by have := HB5.out.size; first | omega | (simp; omega))))⟩
      · have HNC : Hid (∀ w, Calls Tryz.prog 11 #[.int .u8 kc, .float .f64 xc, .int .i64 nc] w fun e w' => e = .returned (.tuple #[.float .f64 (fOf dC xc nc), .bool false]) ∧ w = w') := Lib.hid (fun w => num_any2 kc bkc.1 dC hdC xc nc _ false rfl (decide_eq_false gC) w)
        rw [resOf_bad gC] at HZ
        obtain ⟨fC, hfC⟩ : ∃ f, fOf dC xc nc = f := ⟨_, rfl⟩
        rw [hfC] at HNC
        clear hfC
        have HRF := Lib.hid (fun a q c s k2 s2 h w => ref_any name tc kc bkc.1 dC hdC gC a q c s k2 s2 h w)
        go_enter Tryz.func5, Tryz.ntmps5
        go_wp2_with (first | (go_at_call 10; (with_reducible refine (HMV.out _).mono ?_); rintro e w1 ⟨rfl, hb1⟩; have HB1 := Lib.hid (hb1); have hp1 := hp0.later hb1; clear hb1) | (go_at_call 10; (with_reducible refine (HMA.out _).mono ?_); rintro e w2 ⟨rfl, hb2⟩; have HB2 := Lib.hid (HB1.out.trans (hb2.mono HB1.out.size)); have hp2 := hp1.later hb2; clear hb2) | (go_at_call 10; (with_reducible refine (HMB.out _).mono ?_); rintro e w3 ⟨rfl, hb3⟩; have HB3 := Lib.hid (HB2.out.trans (hb3.mono HB2.out.size)); have hp3 := hp2.later hb3; clear hb3) | (go_at_call 10; (with_reducible refine (HMC.out _).mono ?_); rintro e w4 ⟨rfl, hb4⟩; have HB4 := Lib.hid (HB3.out.trans (hb4.mono HB3.out.size)); have hp4 := hp3.later hb4; clear hb4) | (go_at_call 18; (with_reducible refine (HZ.out _ hp4).mono ?_); rintro e w5 ⟨ho, hb5⟩; have HB5 := Lib.hid (HB4.out.trans (hb5.mono HB4.out.size)); clear hb5; obtain ⟨a, q, c, s, k2, s2, rfl, hok⟩ := ho; have HOK := Lib.hid hok; clear hok) | (go_at_call 11; (with_reducible refine (HNA.out _).mono ?_); rintro e w9 ⟨rfl, rfl⟩) | (go_at_call 11; (with_reducible refine (HNB.out _).mono ?_); rintro e w9 ⟨rfl, rfl⟩) | (go_at_call 11; (with_reducible refine (HNC.out _).mono ?_); rintro e w9 ⟨rfl, rfl⟩) | (go_at_call 12; refine (HRF.out _ _ _ _ _ _ HOK.out _).mono ?_; rintro e w8 ⟨rfl, hb8⟩) | go_in)
        go_ret
        exact ⟨rfl, HB5.out.trans (Below.trans (by first | exact (Below.refl _ _).mono HB5.out.size | exact ((Below.refl _ _).alloc (Nat.le_refl _) _).mono HB5.out.size | exact (((Below.refl _ _).alloc (Nat.le_refl _) _).drew).mono HB5.out.size | exact (((Below.refl _ _).alloc (Nat.le_refl _) _).drew.drew).mono HB5.out.size) (hb8.mono (by have := HB5.out.size; first | omega | (simp; omega))))⟩
    · have HNB : Hid (∀ w, Calls Tryz.prog 11 #[.int .u8 kb, .float .f64 xb, .int .i64 nb] w fun e w' => e = .returned (.tuple #[.float .f64 (fOf dB xb nb), .bool false]) ∧ w = w') := Lib.hid (fun w => num_any2 kb bkb.1 dB hdB xb nb _ false rfl (decide_eq_false gB) w)
      rw [resOf_bad gB] at HZ
      obtain ⟨fB, hfB⟩ : ∃ f, fOf dB xb nb = f := ⟨_, rfl⟩
      rw [hfB] at HNB
      clear hfB
      have HRF := Lib.hid (fun a q c s k2 s2 h w => ref_any name name kb bkb.1 dB hdB gB a q c s k2 s2 h w)
      go_enter Tryz.func5, Tryz.ntmps5
      go_wp2_with (first | (go_at_call 10; (with_reducible refine (HMV.out _).mono ?_); rintro e w1 ⟨rfl, hb1⟩; have HB1 := Lib.hid (hb1); have hp1 := hp0.later hb1; clear hb1) | (go_at_call 10; (with_reducible refine (HMA.out _).mono ?_); rintro e w2 ⟨rfl, hb2⟩; have HB2 := Lib.hid (HB1.out.trans (hb2.mono HB1.out.size)); have hp2 := hp1.later hb2; clear hb2) | (go_at_call 10; (with_reducible refine (HMB.out _).mono ?_); rintro e w3 ⟨rfl, hb3⟩; have HB3 := Lib.hid (HB2.out.trans (hb3.mono HB2.out.size)); have hp3 := hp2.later hb3; clear hb3) | (go_at_call 10; (with_reducible refine (HMC.out _).mono ?_); rintro e w4 ⟨rfl, hb4⟩; have HB4 := Lib.hid (HB3.out.trans (hb4.mono HB3.out.size)); have hp4 := hp3.later hb4; clear hb4) | (go_at_call 18; (with_reducible refine (HZ.out _ hp4).mono ?_); rintro e w5 ⟨ho, hb5⟩; have HB5 := Lib.hid (HB4.out.trans (hb5.mono HB4.out.size)); clear hb5; obtain ⟨a, q, c, s, k2, s2, rfl, hok⟩ := ho; have HOK := Lib.hid hok; clear hok) | (go_at_call 11; (with_reducible refine (HNA.out _).mono ?_); rintro e w9 ⟨rfl, rfl⟩) | (go_at_call 11; (with_reducible refine (HNB.out _).mono ?_); rintro e w9 ⟨rfl, rfl⟩) | (go_at_call 12; refine (HRF.out _ _ _ _ _ _ HOK.out _).mono ?_; rintro e w8 ⟨rfl, hb8⟩) | go_in)
      go_ret
      exact ⟨rfl, HB5.out.trans (Below.trans (by first | exact (Below.refl _ _).mono HB5.out.size | exact ((Below.refl _ _).alloc (Nat.le_refl _) _).mono HB5.out.size | exact (((Below.refl _ _).alloc (Nat.le_refl _) _).drew).mono HB5.out.size | exact (((Below.refl _ _).alloc (Nat.le_refl _) _).drew.drew).mono HB5.out.size) (hb8.mono (by have := HB5.out.size; first | omega | (simp; omega))))⟩
  · have HNA : Hid (∀ w, Calls Tryz.prog 11 #[.int .u8 ka, .float .f64 xa, .int .i64 na] w fun e w' => e = .returned (.tuple #[.float .f64 (fOf dA xa na), .bool false]) ∧ w = w') := Lib.hid (fun w => num_any2 ka bka.1 dA hdA xa na _ false rfl (decide_eq_false gA) w)
    rw [resOf_bad gA] at HZ
    obtain ⟨fA, hfA⟩ : ∃ f, fOf dA xa na = f := ⟨_, rfl⟩
    rw [hfA] at HNA
    clear hfA
    have HRF := Lib.hid (fun a q c s k2 s2 h w => ref_any name t ka bka.1 dA hdA gA a q c s k2 s2 h w)
    go_enter Tryz.func5, Tryz.ntmps5
    go_wp2_with (first | (go_at_call 10; (with_reducible refine (HMV.out _).mono ?_); rintro e w1 ⟨rfl, hb1⟩; have HB1 := Lib.hid (hb1); have hp1 := hp0.later hb1; clear hb1) | (go_at_call 10; (with_reducible refine (HMA.out _).mono ?_); rintro e w2 ⟨rfl, hb2⟩; have HB2 := Lib.hid (HB1.out.trans (hb2.mono HB1.out.size)); have hp2 := hp1.later hb2; clear hb2) | (go_at_call 10; (with_reducible refine (HMB.out _).mono ?_); rintro e w3 ⟨rfl, hb3⟩; have HB3 := Lib.hid (HB2.out.trans (hb3.mono HB2.out.size)); have hp3 := hp2.later hb3; clear hb3) | (go_at_call 10; (with_reducible refine (HMC.out _).mono ?_); rintro e w4 ⟨rfl, hb4⟩; have HB4 := Lib.hid (HB3.out.trans (hb4.mono HB3.out.size)); have hp4 := hp3.later hb4; clear hb4) | (go_at_call 18; (with_reducible refine (HZ.out _ hp4).mono ?_); rintro e w5 ⟨ho, hb5⟩; have HB5 := Lib.hid (HB4.out.trans (hb5.mono HB4.out.size)); clear hb5; obtain ⟨a, q, c, s, k2, s2, rfl, hok⟩ := ho; have HOK := Lib.hid hok; clear hok) | (go_at_call 11; (with_reducible refine (HNA.out _).mono ?_); rintro e w9 ⟨rfl, rfl⟩) | (go_at_call 12; refine (HRF.out _ _ _ _ _ _ HOK.out _).mono ?_; rintro e w8 ⟨rfl, hb8⟩) | go_in)
    go_ret
    exact ⟨rfl, HB5.out.trans (Below.trans (by first | exact (Below.refl _ _).mono HB5.out.size | exact ((Below.refl _ _).alloc (Nat.le_refl _) _).mono HB5.out.size | exact (((Below.refl _ _).alloc (Nat.le_refl _) _).drew).mono HB5.out.size | exact (((Below.refl _ _).alloc (Nat.le_refl _) _).drew.drew).mono HB5.out.size) (hb8.mono (by have := HB5.out.size; first | omega | (simp; omega))))⟩
end Go.Proofs.YtipinccflmmepaaGreatDoor
