/- Contracts: atof64, ParseFloat, json.Number.Float64 at the texts of whole numbers. -/
import Derived.Test.YtngdcnljbfkneabGreatDoorPfA
namespace Go.Proofs.YtngdcnljbfkneabGreatDoor
open Go.RowKit Go.Dec

/-- readFloat reads the whole number d with its sign. -/
def Reads (s : ByteArray) (d : Nat) (neg : Bool) : Prop :=
  (∀ w, Calls Tryz.prog 92 #[.string s] w fun e w' => e = .returned (.tuple #[.float .f64 0, .int .i64 0, .bool false]) ∧ w = w') ∧
  (∀ w, Calls Tryz.prog 93 #[.string s] w fun e w' => e = .returned (.tuple #[.int .u64 d, .int .i64 0, .bool neg, .bool false, .bool false, .int .i64 s.size, .bool true]) ∧ w = w')
theorem zero_word : (0 : Nat) = Ieee.double.nearest false 0 0 := by decide +kernel
set_option maxRecDepth 100000 in
set_option maxHeartbeats 4000000 in
theorem atof_whole (s : ByteArray) (d : Nat) (neg : Bool) (h0 : d = 0 → neg = false) (hd2 : d ≤ 9223372036854775808) (hr : Reads s d neg) (w : World) (hp : PfW w) :
    Calls Tryz.prog 71 #[.string s] w fun e w' => e = .returned (.tuple #[.float .f64 (Ieee.double.nearest neg d 0), .int .i64 s.size, .nilIface]) ∧ Below w.heap.size w w' := by
  have H1 := Lib.hid hr.1
  have H2 := Lib.hid hr.2
  have HP := Lib.hid hp
  have ho := hp.opt
  obtain ⟨Z, hZ⟩ : ∃ Z : Nat, s.size = Z := ⟨_, rfl⟩
  rw [hZ] at H2
  rw [hZ]
  rcases Nat.eq_zero_or_pos d with hz | hz
  · subst hz
    obtain rfl := h0 rfl
    clear hr hp h0
    rw [← zero_word]
    go_enter Tryz.func71, Tryz.ntmps71
    go_wp2_with (first | (go_at_call 92; refine (H1.out _).mono ?_; rintro e w' ⟨rfl, rfl⟩) | (go_at_call 93; refine (H2.out _).mono ?_; rintro e w' ⟨rfl, rfl⟩) | (go_at_call 101; refine (b2u _ _).mono ?_; rintro e w' ⟨rfl, rfl⟩))
    go_returns
    exact ⟨rfl, Below.refl _ _⟩
  · have hnz : ((d : Int) == 0) = false := by simp; omega
    clear h0 hr hp
    by_cases hb : d < 4503599627370496
    · have HE := Lib.hid (exact_small d neg hb w HP.out)
      cases neg <;> (
        go_enter Tryz.func71, Tryz.ntmps71
        go_wp2_with (first | (go_at_call 92; refine (H1.out _).mono ?_; rintro e w' ⟨rfl, rfl⟩) | (go_at_call 93; refine (H2.out _).mono ?_; rintro e w' ⟨rfl, rfl⟩) | (go_at_call 101; refine (b2u _ _).mono ?_; rintro e w' ⟨rfl, rfl⟩) | (go_at_call 103; refine HE.out.mono ?_; rintro e w' ⟨rfl, rfl⟩))
        go_returns
        exact ⟨rfl, Below.refl _ _⟩)
    · have HE := Lib.hid (exact_big d neg (by omega) hd2 w HP.out)
      have HN := Lib.hid (parse_nearest neg d (by omega) hd2 w HP.out.t0 HP.out.t1 HP.out.sz.1)
      obtain ⟨V, hV⟩ : ∃ V, Ieee.double.nearest neg d 0 = V := ⟨_, rfl⟩
      rw [hV] at HN ⊢
      cases neg <;> (
        go_enter Tryz.func71, Tryz.ntmps71
        go_wp2_with (first | (go_at_call 92; refine (H1.out _).mono ?_; rintro e w' ⟨rfl, rfl⟩) | (go_at_call 93; refine (H2.out _).mono ?_; rintro e w' ⟨rfl, rfl⟩) | (go_at_call 101; refine (b2u _ _).mono ?_; rintro e w' ⟨rfl, rfl⟩) | (go_at_call 103; refine HE.out.mono ?_; rintro e w' ⟨rfl, rfl⟩) | (go_at_call 104; refine HN.out.mono ?_; rintro e w' ⟨rfl, hb1⟩; have HB1 := Lib.hid hb1; clear hb1))
        go_returns
        exact ⟨rfl, HB1.out⟩)
set_option maxHeartbeats 2000000 in
theorem ipf_whole (s : ByteArray) (d : Nat) (neg : Bool) (h0 : d = 0 → neg = false) (hd2 : d ≤ 9223372036854775808) (hr : Reads s d neg) (w : World) (hp : PfW w) :
    Calls Tryz.prog 33 #[.string s, .int .i64 64] w fun e w' => e = .returned (.tuple #[.float .f64 (Ieee.double.nearest neg d 0), .nilIface]) ∧ Below w.heap.size w w' := by
  have HA := Lib.hid (atof_whole s d neg h0 hd2 hr w hp)
  obtain ⟨V, hV⟩ : ∃ V, Ieee.double.nearest neg d 0 = V := ⟨_, rfl⟩
  obtain ⟨Z, hZ⟩ : ∃ Z : Nat, s.size = Z := ⟨_, rfl⟩
  rw [hV, hZ] at HA
  rw [hV]
  clear hr hp h0 hd2 hV
  have hp : Calls Tryz.prog 49 #[.string s, .int .i64 64] w fun e w' => e = .returned (.tuple #[.float .f64 V, .int .i64 Z, .nilIface]) ∧ Below w.heap.size w w' := by
    go_enter Tryz.func49, Tryz.ntmps49
    go_wp2_with (go_at_call 71; refine HA.out.mono ?_; rintro e w' ⟨rfl, hb1⟩; have HB1 := Lib.hid hb1; clear hb1)
    go_returns
    exact ⟨rfl, HB1.out⟩
  have HQ := Lib.hid hp
  clear hp
  go_enter Tryz.func33, Tryz.ntmps33
  go_wp2_with (go_at_call 49; refine HQ.out.mono ?_; rintro e w' ⟨rfl, hb1⟩; have HB1 := Lib.hid hb1; clear hb1)
  go_returns
  exact ⟨rfl, HB1.out⟩
set_option maxHeartbeats 2000000 in
theorem pf_whole (s : ByteArray) (d : Nat) (neg : Bool) (h0 : d = 0 → neg = false) (hd2 : d ≤ 9223372036854775808) (hr : Reads s d neg) (w : World) (hp : PfW w) :
    Calls Tryz.prog 25 #[.string s, .int .i64 64] w fun e w' => e = .returned (.tuple #[.float .f64 (Ieee.double.nearest neg d 0), .nilIface]) ∧ Below w.heap.size w w' := by
  have HA := Lib.hid (ipf_whole s d neg h0 hd2 hr w hp)
  obtain ⟨V, hV⟩ : ∃ V, Ieee.double.nearest neg d 0 = V := ⟨_, rfl⟩
  rw [hV] at HA ⊢
  clear hr hp h0 hd2 hV
  go_enter Tryz.func25, Tryz.ntmps25
  go_wp2_with (go_at_call 33; refine HA.out.mono ?_; rintro e w' ⟨rfl, hb1⟩; have HB1 := Lib.hid hb1; clear hb1)
  go_returns
  exact ⟨rfl, HB1.out⟩
set_option maxHeartbeats 2000000 in
theorem num_whole (s : ByteArray) (d : Nat) (neg : Bool) (h0 : d = 0 → neg = false) (hd2 : d ≤ 9223372036854775808) (hr : Reads s d neg) (w : World) (hp : PfW w) :
    Calls Tryz.prog 18 #[.string s] w fun e w' => e = .returned (.tuple #[.float .f64 (Ieee.double.nearest neg d 0), .nilIface]) ∧ Below w.heap.size w w' := by
  have HA := Lib.hid (pf_whole s d neg h0 hd2 hr w hp)
  obtain ⟨V, hV⟩ : ∃ V, Ieee.double.nearest neg d 0 = V := ⟨_, rfl⟩
  rw [hV] at HA ⊢
  clear hr hp h0 hd2 hV
  go_enter Tryz.func18, Tryz.ntmps18
  go_wp2_with (go_at_call 25; refine HA.out.mono ?_; rintro e w' ⟨rfl, hb1⟩; have HB1 := Lib.hid hb1; clear hb1)
  go_returns
  exact ⟨rfl, HB1.out⟩
end Go.Proofs.YtngdcnljbfkneabGreatDoor
