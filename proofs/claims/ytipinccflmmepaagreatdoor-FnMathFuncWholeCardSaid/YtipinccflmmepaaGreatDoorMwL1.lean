/- FnMathFuncWhole's walk. -/
import Derived.Test.YtipinccflmmepaaGreatDoorMwF1
import Derived.Test.YtipinccflmmepaaGreatDoorOwn
namespace Go.Proofs.YtipinccflmmepaaGreatDoor
open Go.RowKit Go.Deep

theorem u8_bd {k : Int} (h : (Lit.int .u8 k).wf = true) : 0 ≤ k ∧ k ≤ 255 := by
  have : IntKind.u8.min ≤ k ∧ k ≤ IntKind.u8.max := by simpa [Lit.wf] using h
  exact ⟨this.1, this.2⟩
theorem i64_bd {k : Int} (h : (Lit.int .i64 k).wf = true) : In64 k := by
  have : IntKind.i64.min ≤ k ∧ k ≤ IntKind.i64.max := by simpa [Lit.wf] using h
  exact ⟨this.1, this.2⟩
theorem num_any2 (k : Int) (h0 : 0 ≤ k) (kd : Nat) (hk : k % 5 = kd) (x : Nat) (n : Int) (b : Nat) (ok : Bool) (hb : fOf kd x n = b) (hok : decide (kd < 3) = ok) (W : World) :
    Calls Tryz.prog 11 #[.int .u8 k, .float .f64 x, .int .i64 n] W fun e w' => e = .returned (.tuple #[.float .f64 b, .bool ok]) ∧ W = w' := by
  subst hb hok
  exact num_any k h0 kd hk x n W
theorem agg_inj {a a2 : Bool} {q q2 : Nat} {c c2 : Bool} {s s2 : ByteArray} {k k2 : Int} {r r2 : ByteArray} (h : (.agg #[.bool a, .float .f64 q, .bool c, .string s, .int .i64 k, .string r] : Value) = .agg #[.bool a2, .float .f64 q2, .bool c2, .string s2, .int .i64 k2, .string r2]) : a = a2 ∧ q = q2 ∧ c = c2 ∧ s = s2 ∧ k = k2 ∧ r = r2 := by
  simpa using h
set_option maxRecDepth 100000 in
set_option maxHeartbeats 8000000 in
theorem walk_FnMathFuncWhole (name : ByteArray) (_wname : name.size ≤ maxLen) (k : Int) (wk : (Lit.int .u8 k).wf = true) (x : Nat) (_wx : (Lit.float .f64 x).wf = true) (n : Int) (wn : (Lit.int .i64 n).wf = true) (t : ByteArray) (_wt : t.size ≤ maxLen) (W : World) (hp : PfW W) :
    Calls Tryz.prog 3 #[.string name, .int .u8 k, .float .f64 x, .int .i64 n, .string t] W fun e w' => e = .returned (.bool true) ∧ Below W.heap.size W w' := by
  have bk := u8_bd wk
  have bn := i64_bd wn
  clear _wname wk _wx wn _wt
  obtain ⟨dA, hdA, ldA⟩ := kd_lt k
  by_cases c0 : (1048576 : Int) < name.size
  · go_enter Tryz.func3, Tryz.ntmps3
    go_wp2_with go_in
    go_ret
    exact ⟨rfl, by first | exact Below.refl _ _ | go_grown⟩
  by_cases c1 : (1048576 : Int) < t.size
  · go_enter Tryz.func3, Tryz.ntmps3
    go_wp2_with go_in
    go_ret
    exact ⟨rfl, by first | exact Below.refl _ _ | go_grown⟩
  by_cases c2 : (1048576 : Int) < (name.size : Int) + t.size
  · go_enter Tryz.func3, Tryz.ntmps3
    go_wp2_with go_in
    go_ret
    exact ⟨rfl, by first | exact Below.refl _ _ | go_grown⟩
  have c99 : True := trivial
  have HMA : Hid (∀ w, Calls Tryz.prog 10 #[.int .u8 k, .float .f64 x, .int .i64 n, .string t] w fun e w' => e = .returned (argV dA x n t) ∧ Below w.heap.size w w') := Lib.hid (fun w => mk_any k bk.1 bk.2 dA hdA x n bn t w)
  have HZ : Hid (∀ w, PfW w → Calls Tryz.prog 8 #[.string name, .func (.func 9) #[] #[], argV dA x n t] w fun e w' => OutK1 name (resOf dA x n t fun pA => .num (· = Go.Op.negFloat .f64 pA)) e ∧ Below w.heap.size w w') := Lib.hid (fun w h => zz1_any name ⟨dA, x, n, t, ldA, bn⟩ w h)
  obtain ⟨vA, hvA⟩ : ∃ v, argV dA x n t = v := ⟨_, rfl⟩
  rw [hvA] at HMA HZ
  clear hvA
  have hp0 := hp
  by_cases gA : dA < 3
  · have HNA : Hid (∀ w, Calls Tryz.prog 11 #[.int .u8 k, .float .f64 x, .int .i64 n] w fun e w' => e = .returned (.tuple #[.float .f64 (fOf dA x n), .bool true]) ∧ w = w') := Lib.hid (fun w => num_any2 k bk.1 dA hdA x n _ true rfl (decide_eq_true gA) w)
    rw [resOf_ok gA] at HZ
    obtain ⟨fA, hfA⟩ : ∃ f, fOf dA x n = f := ⟨_, rfl⟩
    rw [hfA] at HNA HZ
    clear hfA
    go_enter Tryz.func3, Tryz.ntmps3
    go_wp2_with (first | (go_at_call 10; (with_reducible refine (HMA.out _).mono ?_); rintro e w1 ⟨rfl, hb1⟩; have HB1 := Lib.hid (hb1); have hp1 := hp0.later hb1; clear hb1) | (go_at_call 8; (with_reducible refine (HZ.out _ hp1).mono ?_); rintro e w2 ⟨ho, hb2⟩; have HB2 := Lib.hid (HB1.out.trans (hb2.mono HB1.out.size)); clear hb2; obtain ⟨a, q, c, s, k2, s2, rfl, hok⟩ := ho; obtain ⟨b, hR, hV⟩ := hok; obtain ⟨rfl, rfl, rfl, rfl, rfl, rfl⟩ := agg_inj hV; have HR := Lib.hid hR; clear hR hV) | (go_at_call 11; (with_reducible refine (HNA.out _).mono ?_); rintro e w9 ⟨rfl, rfl⟩) | (go_at_call 13; refine (got_any _ _ (.inl HR.out) _).mono ?_; rintro e w8 ⟨rfl, hb8⟩) | go_in)
    go_ret
    exact ⟨rfl, HB2.out.trans (Below.trans (by first | exact (Below.refl _ _).mono HB2.out.size | exact ((Below.refl _ _).alloc (Nat.le_refl _) _).mono HB2.out.size | exact (((Below.refl _ _).alloc (Nat.le_refl _) _).drew).mono HB2.out.size | exact (((Below.refl _ _).alloc (Nat.le_refl _) _).drew.drew).mono HB2.out.size) (hb8.mono (by have := HB2.out.size; first | omega | (simp; omega))))⟩
  · have HNA : Hid (∀ w, Calls Tryz.prog 11 #[.int .u8 k, .float .f64 x, .int .i64 n] w fun e w' => e = .returned (.tuple #[.float .f64 (fOf dA x n), .bool false]) ∧ w = w') := Lib.hid (fun w => num_any2 k bk.1 dA hdA x n _ false rfl (decide_eq_false gA) w)
    rw [resOf_bad gA] at HZ
    obtain ⟨fA, hfA⟩ : ∃ f, fOf dA x n = f := ⟨_, rfl⟩
    rw [hfA] at HNA
    clear hfA
    have HRF := Lib.hid (fun a q c s k2 s2 h w => ref_any name t k bk.1 dA hdA gA a q c s k2 s2 h w)
    go_enter Tryz.func3, Tryz.ntmps3
    go_wp2_with (first | (go_at_call 10; (with_reducible refine (HMA.out _).mono ?_); rintro e w1 ⟨rfl, hb1⟩; have HB1 := Lib.hid (hb1); have hp1 := hp0.later hb1; clear hb1) | (go_at_call 8; (with_reducible refine (HZ.out _ hp1).mono ?_); rintro e w2 ⟨ho, hb2⟩; have HB2 := Lib.hid (HB1.out.trans (hb2.mono HB1.out.size)); clear hb2; obtain ⟨a, q, c, s, k2, s2, rfl, hok⟩ := ho; have HOK := Lib.hid hok; clear hok) | (go_at_call 11; (with_reducible refine (HNA.out _).mono ?_); rintro e w9 ⟨rfl, rfl⟩) | (go_at_call 12; refine (HRF.out _ _ _ _ _ _ HOK.out _).mono ?_; rintro e w8 ⟨rfl, hb8⟩) | go_in)
    go_ret
    exact ⟨rfl, HB2.out.trans (Below.trans (by first | exact (Below.refl _ _).mono HB2.out.size | exact ((Below.refl _ _).alloc (Nat.le_refl _) _).mono HB2.out.size | exact (((Below.refl _ _).alloc (Nat.le_refl _) _).drew).mono HB2.out.size | exact (((Below.refl _ _).alloc (Nat.le_refl _) _).drew.drew).mono HB2.out.size) (hb8.mono (by have := HB2.out.size; first | omega | (simp; omega))))⟩
end Go.Proofs.YtipinccflmmepaaGreatDoor
