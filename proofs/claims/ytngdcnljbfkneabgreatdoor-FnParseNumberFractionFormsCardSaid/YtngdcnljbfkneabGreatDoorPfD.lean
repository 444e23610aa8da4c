/- Contracts: ParseFloat over any answer of atof64; the texts of whole numbers with a '.0' behind them. -/
import Derived.Test.YtngdcnljbfkneabGreatDoorPfC
import Derived.Test.YtngdcnljbfkneabGreatDoorFloatQuo
namespace Go.Proofs.YtngdcnljbfkneabGreatDoor
open Go.RowKit Go.Dec

def Atof (s : ByteArray) (V : Nat) (w : World) : Prop := Calls Tryz.prog 71 #[.string s] w fun e w' => e = .returned (.tuple #[.float .f64 V, .int .i64 s.size, .nilIface]) ∧ Below w.heap.size w w'
set_option maxHeartbeats 2000000 in
theorem ipf_of (s : ByteArray) (V : Nat) (w : World) (ha : Atof s V w) :
    Calls Tryz.prog 33 #[.string s, .int .i64 64] w fun e w' => e = .returned (.tuple #[.float .f64 V, .nilIface]) ∧ Below w.heap.size w w' := by
  have HA := Lib.hid ha
  unfold Atof at HA
  obtain ⟨Z, hZ⟩ : ∃ Z : Nat, s.size = Z := ⟨_, rfl⟩
  rw [hZ] at HA
  clear ha
  have hp : Calls Tryz.prog 49 #[.string s, .int .i64 64] w fun e w' => e = .returned (.tuple #[.float .f64 V, .int .i64 Z, .nilIface]) ∧ Below w.heap.size w w' := by
    go_enter Tryz.func49, Tryz.ntmps49
    go_wp2_with (go_at_call 71; refine HA.out.mono ?_; rintro e w' ⟨rfl, hb1⟩; have HB1 := Lib.hid hb1; clear hb1)
    go_returns
    exact ⟨rfl, HB1.out⟩
  have HQ := Lib.hid hp
  clear hp
  go_enter Tryz.func33, Tryz.ntmps33
  go_wp2_with (go_at_call 49; refine HQ.out.mono ?_; rintro e w' ⟨rfl, hb1⟩; have HB1 := Lib.hid hb1; clear hb1)
  go_returns
  exact ⟨rfl, HB1.out⟩
set_option maxHeartbeats 2000000 in
theorem pf_of (s : ByteArray) (V : Nat) (w : World) (ha : Atof s V w) :
    Calls Tryz.prog 25 #[.string s, .int .i64 64] w fun e w' => e = .returned (.tuple #[.float .f64 V, .nilIface]) ∧ Below w.heap.size w w' := by
  have HA := Lib.hid (ipf_of s V w ha)
  clear ha
  go_enter Tryz.func25, Tryz.ntmps25
  go_wp2_with (go_at_call 33; refine HA.out.mono ?_; rintro e w' ⟨rfl, hb1⟩; have HB1 := Lib.hid hb1; clear hb1)
  go_returns
  exact ⟨rfl, HB1.out⟩
set_option maxHeartbeats 2000000 in
theorem num_of (s : ByteArray) (V : Nat) (w : World) (ha : Atof s V w) :
    Calls Tryz.prog 18 #[.string s] w fun e w' => e = .returned (.tuple #[.float .f64 V, .nilIface]) ∧ Below w.heap.size w w' := by
  have HA := Lib.hid (pf_of s V w ha)
  clear ha
  go_enter Tryz.func18, Tryz.ntmps18
  go_wp2_with (go_at_call 25; refine HA.out.mono ?_; rintro e w' ⟨rfl, hb1⟩; have HB1 := Lib.hid hb1; clear hb1)
  go_returns
  exact ⟨rfl, HB1.out⟩

/-- What of the laid tables '.0' wants besides. -/
structure PfW1 (w : World) : Prop where
  base : PfW w
  t2 : w.cell? ⟨19, 694, none⟩ = some (.int .u64 14757395258967641293)
  t3 : w.cell? ⟨19, 695, none⟩ = some (.int .u64 3689348814741910323)
  ten : ∃ bk off cap, w.cell? ⟨17, 0, none⟩ = some (.slice (some ⟨bk, off, none⟩) 23 cap) ∧ bk < w.heap.size ∧ w.cell? ⟨bk, off + 1, none⟩ = some (.float .f64 4621819117588971520)
  sz : 17 < w.heap.size
theorem PfW1.later {w w' : World} (h : PfW1 w) (hb : Below w.heap.size w w') : PfW1 w' := by
  obtain ⟨bk, off, cap, h1, h2, h3⟩ := h.ten
  exact ⟨h.base.later hb, (hb.cell (p := ⟨19, 694, none⟩) h.base.sz.1).trans h.t2, (hb.cell (p := ⟨19, 695, none⟩) h.base.sz.1).trans h.t3, ⟨bk, off, cap, (hb.cell (p := ⟨17, 0, none⟩) h.sz).trans h1, Nat.lt_of_lt_of_le h2 hb.size, (hb.cell (p := ⟨bk, off + 1, none⟩) h2).trans h3⟩, Nat.lt_of_lt_of_le h.sz hb.size⟩
def sgi (neg : Bool) (n : Nat) : Int := if neg then -(n : Int) else n
theorem is_sgi (neg : Bool) (n : Nat) (hn : n ≤ 9007199254740992) (h0 : 0 < n) : FloatKey.Is (Ieee.double.nearest neg n 0) (sgi neg n) 0 := by
  cases neg with
  | false => rw [← ofInt_nat]; exact FloatKey.is_ofInt (n : Int) (by simpa using hn)
  | true => rw [← ofInt_neg n h0]; exact FloatKey.is_ofInt (-(n : Int)) (by simpa using hn)
set_option maxRecDepth 100000 in
set_option maxHeartbeats 2000000 in
theorem exact_tenth (n : Nat) (neg : Bool) (h0 : 0 < n) (hd : 10 * n < 4503599627370496) (w : World) (hp : PfW1 w) :
    ∃ V, FloatKey.Is V (sgi neg n) 0 ∧ Calls Tryz.prog 103 #[.int .u64 ((10 * n : Nat) : Int), .int .i64 (-1), .bool neg] w fun e w' => e = .returned (.tuple #[.float .f64 V, .bool true]) ∧ w = w' := by
  have m0 := hp.base.mant
  obtain ⟨bk, off, cap, t0, _, t1⟩ := hp.ten
  have hi := is_sgi neg (10 * n) (by omega) (by omega)
  have hs : sgi neg (10 * n) = 10 * sgi neg n := by unfold sgi; cases neg <;> simp <;> omega
  rw [hs] at hi
  obtain ⟨V, hV, hI⟩ := FloatKey.is_div10 hi (by decide) (by unfold sgi; cases neg <;> simp <;> omega)
  refine ⟨V, hI, ?_⟩
  obtain ⟨d, hdd⟩ : ∃ d, 10 * n = d := ⟨_, rfl⟩
  rw [hdd] at hd hV ⊢
  have hd0 : 0 < d := by omega
  clear hi hs hI hdd h0
  cases neg with
  | false =>
    rw [← ofInt_nat] at hV
    have k1 := fun (t : TypeId) w => run_float_arith (P := Tryz.prog) w .quo t .f64 _ _ _ hV
    clear hV
    go_enter Tryz.func103, Tryz.ntmps103
    go_wp2
    go_returns
    exact ⟨rfl, rfl⟩
  | true =>
    rw [← near_neg d (by omega), ← ofInt_nat] at hV
    have k1 := fun (t : TypeId) w => run_float_arith (P := Tryz.prog) w .quo t .f64 _ _ _ hV
    clear hV
    go_enter Tryz.func103, Tryz.ntmps103
    go_wp2
    go_returns
    exact ⟨rfl, rfl⟩
set_option maxRecDepth 100000 in
set_option maxHeartbeats 2000000 in
theorem exact_over (d : Nat) (neg : Bool) (hd : 4503599627370496 ≤ d) (hd2 : d ≤ 9223372036854775808) (w : World) (hp : PfW w) :
    Calls Tryz.prog 103 #[.int .u64 d, .int .i64 (-1), .bool neg] w fun e w' => e = .returned (.tuple #[.float .f64 0, .bool false]) ∧ w = w' := by
  have m0 := hp.mant
  go_enter Tryz.func103, Tryz.ntmps103
  go_wp2
  go_returns
  exact ⟨rfl, rfl⟩
/-- readFloat reads ten times the whole number, and the power -1. -/
def Reads1 (s : ByteArray) (d : Nat) (neg : Bool) : Prop :=
  (∀ w, Calls Tryz.prog 92 #[.string s] w fun e w' => e = .returned (.tuple #[.float .f64 0, .int .i64 0, .bool false]) ∧ w = w') ∧
  (∀ w, Calls Tryz.prog 93 #[.string s] w fun e w' => e = .returned (.tuple #[.int .u64 d, .int .i64 (-1), .bool neg, .bool false, .bool false, .int .i64 s.size, .bool true]) ∧ w = w')
set_option maxRecDepth 100000 in
set_option maxHeartbeats 4000000 in
theorem atof_tenth (s : ByteArray) (n : Nat) (neg : Bool) (h0 : 0 < n) (hn : n ≤ 9007199254740992) (hr : Reads1 s (10 * n) neg) (w : World) (hp : PfW1 w) : ∃ V, FloatKey.Is V (sgi neg n) 0 ∧ Atof s V w := by
  have H1 := Lib.hid hr.1
  have H2 := Lib.hid hr.2
  have HP := Lib.hid hp
  have ho := hp.base.opt
  unfold Atof
  obtain ⟨Z, hZ⟩ : ∃ Z : Nat, s.size = Z := ⟨_, rfl⟩
  rw [hZ] at H2
  rw [hZ]
  clear hr hp
  by_cases hb : 10 * n < 4503599627370496
  · obtain ⟨V, hI, hE⟩ := exact_tenth n neg h0 hb w HP.out
    refine ⟨V, hI, ?_⟩
    obtain ⟨d, hdd⟩ : ∃ d, 10 * n = d := ⟨_, rfl⟩
    rw [hdd] at H2 hE hb
    have HE := Lib.hid hE
    have hnz : ((d : Int) == 0) = false := by simp; omega
    clear hE hI
    cases neg <;> (
      go_enter Tryz.func71, Tryz.ntmps71
      go_wp2_with (first | (go_at_call 92; refine (H1.out _).mono ?_; rintro e w' ⟨rfl, rfl⟩) | (go_at_call 93; refine (H2.out _).mono ?_; rintro e w' ⟨rfl, rfl⟩) | (go_at_call 101; refine (b2u _ _).mono ?_; rintro e w' ⟨rfl, rfl⟩) | (go_at_call 103; refine HE.out.mono ?_; rintro e w' ⟨rfl, rfl⟩))
      go_returns
      exact ⟨rfl, Below.refl _ _⟩)
  · refine ⟨Ieee.double.nearest neg n 0, is_sgi neg n hn h0, ?_⟩
    have HN := Lib.hid (parse_tenth neg (10 * n) n rfl (by omega) hn w HP.out.t2 HP.out.t3 HP.out.base.sz.1)
    obtain ⟨V, hV⟩ : ∃ V, Ieee.double.nearest neg n 0 = V := ⟨_, rfl⟩
    rw [hV] at HN ⊢
    obtain ⟨d, hdd⟩ : ∃ d, 10 * n = d := ⟨_, rfl⟩
    rw [hdd] at H2 HN hb
    have HE := Lib.hid (exact_over d neg (by omega) (by omega) w HP.out.base)
    have hnz : ((d : Int) == 0) = false := by simp; omega
    clear hdd
    cases neg <;> (
      go_enter Tryz.func71, Tryz.ntmps71
      go_wp2_with (first | (go_at_call 92; refine (H1.out _).mono ?_; rintro e w' ⟨rfl, rfl⟩) | (go_at_call 93; refine (H2.out _).mono ?_; rintro e w' ⟨rfl, rfl⟩) | (go_at_call 101; refine (b2u _ _).mono ?_; rintro e w' ⟨rfl, rfl⟩) | (go_at_call 103; refine HE.out.mono ?_; rintro e w' ⟨rfl, rfl⟩) | (go_at_call 104; refine HN.out.mono ?_; rintro e w' ⟨rfl, hb1⟩; have HB1 := Lib.hid hb1; clear hb1))
      go_returns
      exact ⟨rfl, HB1.out⟩)
end Go.Proofs.YtngdcnljbfkneabGreatDoor
