/- FnParseNumberFractionForms: one form, or two. -/
import Derived.Test.YtngdcnljbfkneabGreatDoorPn
namespace Go.Proofs.YtngdcnljbfkneabGreatDoor
open Go.RowKit Go.Dec Go.Lib Go.Deep

set_option maxRecDepth 100000 in
set_option maxHeartbeats 4000000 in
theorem form2 (n k : Int) (hk : k.tmod 5 = 2) (h1 : -9007199254740992 ≤ n) (h2 : n ≤ 9007199254740992) (W : World) (hX : LawX W) :
    Calls Tryz.prog 3 #[.int .i64 n, .int .u8 k] W fun e w' => e = .returned (.bool true) ∧ Below W.heap.size W w' := by
  have hn : n.natAbs ≤ 9007199254740992 := by omega
  have HI := Lib.hid (fun w => P34.zzItoa_any n (by omega) (by omega) w)
  have HX := Lib.hid hX
  have hO := FloatKey.is_ofInt n hn
  have kc := fun w => run_convert_int_float (P := Tryz.prog) w 2 23 .i64 .f64 n (by kernel_rfl) Tryz.underlying23
  obtain ⟨Fw, hF⟩ : ∃ F, floatOfInt .f64 n = F := ⟨_, rfl⟩
  rw [hF] at hO kc
  have HO := Lib.hid hO
  have hlen := itoa_len n (by omega)
  have HZ2 := Lib.hid (fun w (h : LawX w) => zz_E00 n hn w h)
  unfold ZzF at HZ2
  rw [← tx_app] at HZ2
  obtain ⟨T0, h0⟩ : ∃ T0 : ByteArray, ⟨(itoa n).toArray⟩ = T0 := ⟨_, rfl⟩
  have hz : T0.size ≤ 20 := by rw [← h0]; exact hlen
  rw [h0] at HI HZ2
  clear h0 hlen hF hO hX hn
  go_enter Tryz.func3, Tryz.ntmps3
  go_wp2_with (first
    | (go_at_call 5; refine (HI.out _).mono ?_; rintro e w0 ⟨rfl, hb0⟩; have HB0 := Lib.hid hb0; clear hb0)
    | (go_at_call 6; refine (HZ2.out _ (HX.out.later HB0.out)).mono ?_; rintro e w1 ⟨⟨V, hV, rfl⟩, hb1⟩; have HB1 := Lib.hid (HB0.out.trans (hb1.mono HB0.out.size)); have e1 := same_bit hV HO.out; clear hb1 hV))
  go_ret
  exact ⟨rfl, HB1.out⟩
set_option maxRecDepth 100000 in
set_option maxHeartbeats 4000000 in
theorem form3 (n k : Int) (hk : k.tmod 5 = 3) (h1 : -9007199254740992 ≤ n) (h2 : n ≤ 9007199254740992) (W : World) (hX : LawX W) :
    Calls Tryz.prog 3 #[.int .i64 n, .int .u8 k] W fun e w' => e = .returned (.bool true) ∧ Below W.heap.size W w' := by
  have hn : n.natAbs ≤ 9007199254740992 := by omega
  have HI := Lib.hid (fun w => P34.zzItoa_any n (by omega) (by omega) w)
  have HX := Lib.hid hX
  have hO := FloatKey.is_ofInt n hn
  have kc := fun w => run_convert_int_float (P := Tryz.prog) w 2 23 .i64 .f64 n (by kernel_rfl) Tryz.underlying23
  obtain ⟨Fw, hF⟩ : ∃ F, floatOfInt .f64 n = F := ⟨_, rfl⟩
  rw [hF] at hO kc
  have HO := Lib.hid hO
  have hlen := itoa_len n (by omega)
  have HZ3 := Lib.hid (fun w (h : LawX w) => zz_milli n hn w h)
  unfold ZzF at HZ3
  rw [← tx_app] at HZ3
  obtain ⟨T0, h0⟩ : ∃ T0 : ByteArray, ⟨(itoa n).toArray⟩ = T0 := ⟨_, rfl⟩
  have hz : T0.size ≤ 20 := by rw [← h0]; exact hlen
  rw [h0] at HI HZ3
  clear h0 hlen hF hO hX hn
  go_enter Tryz.func3, Tryz.ntmps3
  go_wp2_with (first
    | (go_at_call 5; refine (HI.out _).mono ?_; rintro e w0 ⟨rfl, hb0⟩; have HB0 := Lib.hid hb0; clear hb0)
    | (go_at_call 6; refine (HZ3.out _ (HX.out.later HB0.out)).mono ?_; rintro e w1 ⟨⟨V, hV, rfl⟩, hb1⟩; have HB1 := Lib.hid (HB0.out.trans (hb1.mono HB0.out.size)); have e1 := same_bit hV HO.out; clear hb1 hV))
  go_ret
  exact ⟨rfl, HB1.out⟩
end Go.Proofs.YtngdcnljbfkneabGreatDoor
