/- FnParseNumberFractionForms: one form, or two. -/
import Derived.Test.YtngdcnljbfkneabGreatDoorPn
namespace Go.Proofs.YtngdcnljbfkneabGreatDoor
open Go.RowKit Go.Dec Go.Lib Go.Deep

set_option maxRecDepth 100000 in
set_option maxHeartbeats 4000000 in
theorem form4n (n k : Int) (hk : k.tmod 5 = 4) (c : n < 0) (h1 : -9007199254740992 ≤ n) (h2 : n ≤ 9007199254740992) (W : World) (hX : LawX W) :
    Calls Tryz.prog 3 #[.int .i64 n, .int .u8 k] W fun e w' => e = .returned (.bool true) ∧ Below W.heap.size W w' := by
  have hn : n.natAbs ≤ 9007199254740992 := by omega
  have HI := Lib.hid (fun w => P34.zzItoa_any n (by omega) (by omega) w)
  have HX := Lib.hid hX
  have hO := FloatKey.is_ofInt n hn
  have kc := fun w => run_convert_int_float (P := Tryz.prog) w 2 23 .i64 .f64 n (by kernel_rfl) Tryz.underlying23
  obtain ⟨Fw, hF⟩ : ∃ F, floatOfInt .f64 n = F := ⟨_, rfl⟩
  rw [hF] at hO kc
  have HO := Lib.hid hO
  have hlen := itoa_len n (by omega)
  have HZ4 : Hid (∀ w, LawX w → ZzF (tx n [101, 57, 57, 57]) (fun V => (n = 0 ∧ FloatKey.Is V 0 0) ∨ (n ≠ 0 ∧ V = infW (decide (n < 0)))) w) := Lib.hid fun w h => by
    by_cases c : n = 0
    · subst c
      exact (zz_nil w h).mono fun e w' hh => ⟨by obtain ⟨V, hV, he⟩ := hh.1; exact ⟨V, Or.inl ⟨rfl, hV⟩, he⟩, hh.2⟩
    · exact (zz_inf n c hn w h).mono fun e w' hh => ⟨by obtain ⟨V, hV, he⟩ := hh.1; exact ⟨V, Or.inr ⟨c, hV⟩, he⟩, hh.2⟩
  unfold ZzF at HZ4
  rw [← tx_app] at HZ4
  obtain ⟨T0, h0⟩ : ∃ T0 : ByteArray, ⟨(itoa n).toArray⟩ = T0 := ⟨_, rfl⟩
  have hz : T0.size ≤ 20 := by rw [← h0]; exact hlen
  rw [h0] at HI HZ4
  clear h0 hlen hF hO hX hn
  go_enter Tryz.func3, Tryz.ntmps3
  go_wp2_with (first
  | (go_at_call 5; refine (HI.out _).mono ?_; rintro e w0 ⟨rfl, hb0⟩; have HB0 := Lib.hid hb0; clear hb0)
  | (go_at_call 6; refine (HZ4.out _ (HX.out.later HB0.out)).mono ?_; rintro e w1 ⟨⟨V, hV, rfl⟩, hb1⟩; have HB1 := Lib.hid (HB0.out.trans (hb1.mono HB0.out.size)); obtain rfl : V = 18442240474082181120 := (by rcases hV with ⟨h, _⟩ | ⟨_, h⟩; omega; rw [h]; unfold infW; rw [if_pos (decide_eq_true c)]); clear hb1)
  | (go_at_call 8; refine (neg_inf _).mono ?_; rintro e w2 ⟨rfl, rfl⟩))
  go_ret
  exact ⟨rfl, HB1.out⟩
set_option maxRecDepth 100000 in
set_option maxHeartbeats 4000000 in
theorem form4z (n k : Int) (hk : k.tmod 5 = 4) (c : n = 0) (h1 : -9007199254740992 ≤ n) (h2 : n ≤ 9007199254740992) (W : World) (hX : LawX W) :
    Calls Tryz.prog 3 #[.int .i64 n, .int .u8 k] W fun e w' => e = .returned (.bool true) ∧ Below W.heap.size W w' := by
  have hn : n.natAbs ≤ 9007199254740992 := by omega
  have HI := Lib.hid (fun w => P34.zzItoa_any n (by omega) (by omega) w)
  have HX := Lib.hid hX
  have hO := FloatKey.is_ofInt n hn
  have kc := fun w => run_convert_int_float (P := Tryz.prog) w 2 23 .i64 .f64 n (by kernel_rfl) Tryz.underlying23
  obtain ⟨Fw, hF⟩ : ∃ F, floatOfInt .f64 n = F := ⟨_, rfl⟩
  rw [hF] at hO kc
  have HO := Lib.hid hO
  have hlen := itoa_len n (by omega)
  have HZ4 : Hid (∀ w, LawX w → ZzF (tx n [101, 57, 57, 57]) (fun V => (n = 0 ∧ FloatKey.Is V 0 0) ∨ (n ≠ 0 ∧ V = infW (decide (n < 0)))) w) := Lib.hid fun w h => by
    by_cases c : n = 0
    · subst c
      exact (zz_nil w h).mono fun e w' hh => ⟨by obtain ⟨V, hV, he⟩ := hh.1; exact ⟨V, Or.inl ⟨rfl, hV⟩, he⟩, hh.2⟩
    · exact (zz_inf n c hn w h).mono fun e w' hh => ⟨by obtain ⟨V, hV, he⟩ := hh.1; exact ⟨V, Or.inr ⟨c, hV⟩, he⟩, hh.2⟩
  unfold ZzF at HZ4
  rw [← tx_app] at HZ4
  obtain ⟨T0, h0⟩ : ∃ T0 : ByteArray, ⟨(itoa n).toArray⟩ = T0 := ⟨_, rfl⟩
  have hz : T0.size ≤ 20 := by rw [← h0]; exact hlen
  rw [h0] at HI HZ4
  clear h0 hlen hF hO hX hn
  have cz : ¬ (0 < n) ∧ ¬ (n < 0) := by omega
  obtain ⟨cz1, cz2⟩ := cz
  have HCZ := Lib.hid c
  clear c
  go_enter Tryz.func3, Tryz.ntmps3
  go_wp2_with (first
  | (go_at_call 5; refine (HI.out _).mono ?_; rintro e w0 ⟨rfl, hb0⟩; have HB0 := Lib.hid hb0; clear hb0)
  | (go_at_call 6; refine (HZ4.out _ (HX.out.later HB0.out)).mono ?_; rintro e w1 ⟨⟨V, hV, rfl⟩, hb1⟩; have HB1 := Lib.hid (HB0.out.trans (hb1.mono HB0.out.size)); have e1 := same_bit (show FloatKey.Is V 0 0 from by rcases hV with ⟨_, h⟩ | ⟨h, _⟩; exact h; exact absurd HCZ.out h) zero_is; clear hb1))
  go_ret
  exact ⟨rfl, HB1.out⟩
set_option maxRecDepth 100000 in
set_option maxHeartbeats 4000000 in
theorem form4p (n k : Int) (hk : k.tmod 5 = 4) (c : 0 < n) (h1 : -9007199254740992 ≤ n) (h2 : n ≤ 9007199254740992) (W : World) (hX : LawX W) :
    Calls Tryz.prog 3 #[.int .i64 n, .int .u8 k] W fun e w' => e = .returned (.bool true) ∧ Below W.heap.size W w' := by
  have hn : n.natAbs ≤ 9007199254740992 := by omega
  have HI := Lib.hid (fun w => P34.zzItoa_any n (by omega) (by omega) w)
  have HX := Lib.hid hX
  have hO := FloatKey.is_ofInt n hn
  have kc := fun w => run_convert_int_float (P := Tryz.prog) w 2 23 .i64 .f64 n (by kernel_rfl) Tryz.underlying23
  obtain ⟨Fw, hF⟩ : ∃ F, floatOfInt .f64 n = F := ⟨_, rfl⟩
  rw [hF] at hO kc
  have HO := Lib.hid hO
  have hlen := itoa_len n (by omega)
  have HZ4 : Hid (∀ w, LawX w → ZzF (tx n [101, 57, 57, 57]) (fun V => (n = 0 ∧ FloatKey.Is V 0 0) ∨ (n ≠ 0 ∧ V = infW (decide (n < 0)))) w) := Lib.hid fun w h => by
    by_cases c : n = 0
    · subst c
      exact (zz_nil w h).mono fun e w' hh => ⟨by obtain ⟨V, hV, he⟩ := hh.1; exact ⟨V, Or.inl ⟨rfl, hV⟩, he⟩, hh.2⟩
    · exact (zz_inf n c hn w h).mono fun e w' hh => ⟨by obtain ⟨V, hV, he⟩ := hh.1; exact ⟨V, Or.inr ⟨c, hV⟩, he⟩, hh.2⟩
  unfold ZzF at HZ4
  rw [← tx_app] at HZ4
  obtain ⟨T0, h0⟩ : ∃ T0 : ByteArray, ⟨(itoa n).toArray⟩ = T0 := ⟨_, rfl⟩
  have hz : T0.size ≤ 20 := by rw [← h0]; exact hlen
  rw [h0] at HI HZ4
  clear h0 hlen hF hO hX hn
  go_enter Tryz.func3, Tryz.ntmps3
  go_wp2_with (first
  | (go_at_call 5; refine (HI.out _).mono ?_; rintro e w0 ⟨rfl, hb0⟩; have HB0 := Lib.hid hb0; clear hb0)
  | (go_at_call 6; refine (HZ4.out _ (HX.out.later HB0.out)).mono ?_; rintro e w1 ⟨⟨V, hV, rfl⟩, hb1⟩; have HB1 := Lib.hid (HB0.out.trans (hb1.mono HB0.out.size)); obtain rfl : V = 9218868437227405312 := (by rcases hV with ⟨h, _⟩ | ⟨_, h⟩; omega; rw [h]; unfold infW; rw [if_neg (by simp; omega)]); clear hb1)
  | (go_at_call 7; refine (pos_inf _).mono ?_; rintro e w2 ⟨rfl, rfl⟩))
  go_ret
  exact ⟨rfl, HB1.out⟩
end Go.Proofs.YtngdcnljbfkneabGreatDoor
