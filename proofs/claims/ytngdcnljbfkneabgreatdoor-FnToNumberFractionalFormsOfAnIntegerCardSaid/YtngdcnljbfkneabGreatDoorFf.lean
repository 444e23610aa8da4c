/- The walk of FnToNumberFractionalFormsOfAnInteger. -/
import Derived.Test.YtngdcnljbfkneabGreatDoorFfB
namespace Go.Proofs.YtngdcnljbfkneabGreatDoor
open Go.RowKit Go.Dec Go.Lib Go.Deep

theorem tx_app (n : Int) (tail : List UInt8) : (⟨(itoa n).toArray⟩ : ByteArray) ++ ⟨tail.toArray⟩ = tx n tail := by
  unfold tx
  apply ByteArray.ext
  rw [ByteArray.data_append]
  simp
def Box (w : World) (b : Nat) (k n : Int) (V : Nat) : Prop := w.heap[b]? = some (.cells #[.int .i64 k, .bool false, .int .i64 n, .float .f64 V, .string ByteArray.empty, .slice none 0 0, .bool false] 31 (0, 0))
theorem Box.new (w : World) (k n : Int) (V : Nat) : Box (w.alloc (.cells #[.int .i64 k, .bool false, .int .i64 n, .float .f64 V, .string ByteArray.empty, .slice none 0 0, .bool false] 31)) w.heap.size k n V := heap_alloc_new _ _
theorem Box.lt {w : World} {b : Nat} {k n : Int} {V : Nat} (h : Box w b k n V) : b < w.heap.size := (Array.getElem?_eq_some_iff.1 h).1
theorem Box.later {w w' : World} {b : Nat} {k n : Int} {V : Nat} (h : Box w b k n V) (hb : Below w.heap.size w w') : Box w' b k n V := (hb.block b h.lt).trans h
theorem Box.alloc {w : World} {b : Nat} {k n : Int} {V : Nat} (h : Box w b k n V) (o : Obj) : Box (w.alloc o) b k n V := (Go.Deep.blk_alloc_lt _ _ _ h.lt).trans h
theorem Box.kind {w : World} {b : Nat} {k n : Int} {V : Nat} (h : Box w b k n V) : w.cell? ⟨b, 0, none⟩ = some (.int .i64 k) := cell_of_row _ _ 0 _ _ (0, 0) h
theorem Box.val {w : World} {b : Nat} {k n : Int} {V : Nat} (h : Box w b k n V) : w.cell? ⟨b, 3, none⟩ = some (.float .f64 V) := cell_of_row _ _ 3 _ _ (0, 0) h
theorem same_word {V F : Nat} {n : Int} (h : FloatKey.Is V n 0) (k : FloatKey.Is F n 0) : (FloatKind.f64.format.order V F != some .eq) = false := by
  unfold bne
  rw [(FloatKey.ord_eq h k).trans (decide_eq_true rfl)]
  rfl
set_option maxRecDepth 100000 in
set_option maxHeartbeats 4000000 in
theorem walk_FnToNumberFractionalFormsOfAnInteger (n : Int) (wn : (Lit.int .i64 n).wf = true) (W : World) (hW : LawW W) :
    Calls Tryz.prog 4 #[.int .i64 n] W fun e w' => e = .returned (.bool true) ∧ Below W.heap.size W w' := by
  have hr : -9223372036854775808 ≤ n ∧ n ≤ 9223372036854775807 := by
    have hm : (IntKind.i64).min = -9223372036854775808 := by decide
    have hM : (IntKind.i64).max = 9223372036854775807 := by decide
    simp [Lit.wf] at wn
    omega
  clear wn
  obtain ⟨r1, r2⟩ := hr
  by_cases c1 : n ≤ -9007199254740992
  · go_enter Tryz.func4, Tryz.ntmps4
    go_wp2
    go_ret
    exact ⟨rfl, by go_grown⟩
  by_cases c2 : 9007199254740992 ≤ n
  · go_enter Tryz.func4, Tryz.ntmps4
    go_wp2
    go_ret
    exact ⟨rfl, by go_grown⟩
  have hn : n.natAbs ≤ 9007199254740992 := by omega
  have hn63 : n.natAbs < 9223372036854775808 := by omega
  have HI := Lib.hid (fun w => zzItoa_any n r1 r2 w)
  have H1 := Lib.hid (fun w (hw : LawW w) => raw_frac n hn63 46 [48] (by decide) (by unfold Mark; decide) (fun w hp => num_dot n hn w hp) w hw)
  have H2 := Lib.hid (fun w (hw : LawW w) => raw_frac n hn63 101 [48] (by decide) (by unfold Mark; decide) (fun w hp => num_e0 n hn w hp) w hw)
  have H3 := Lib.hid (fun w (hw : LawW w) => raw_frac n hn63 69 [43, 48, 48] (by decide) (by unfold Mark; decide) (fun w hp => num_E00 n hn w hp) w hw)
  have H4 := Lib.hid (fun w => raw_int n hn63 w)
  have HW := Lib.hid hW
  have hO := FloatKey.is_ofInt n hn
  have kc := fun w => run_convert_int_float (P := Tryz.prog) w 3 23 .i64 .f64 n (by kernel_rfl) Tryz.underlying23
  obtain ⟨F, hF⟩ : ∃ F, floatOfInt .f64 n = F := ⟨_, rfl⟩
  rw [hF] at hO kc
  have HO := Lib.hid hO
  rw [show tx n [] = ⟨(itoa n).toArray⟩ from by unfold tx; rw [List.append_nil]] at H4
  unfold FracRaw at H1 H2 H3
  rw [← tx_app] at H1 H2 H3
  obtain ⟨T0, h0⟩ : ∃ T0 : ByteArray, ⟨(itoa n).toArray⟩ = T0 := ⟨_, rfl⟩
  have hz : T0.size ≤ 20 := by rw [← h0]; exact itoa_len n hn63
  rw [h0] at HI H4 H1 H2 H3
  clear h0 hO hF hW hn hn63 r1 r2
  go_enter Tryz.func4, Tryz.ntmps4
  go_wp2_with (first
    | (go_at_call 9; refine (HI.out _).mono ?_; rintro e w0 ⟨rfl, hb0⟩; have HB0 := Lib.hid hb0; clear hb0)
    | (go_at_call 10; refine (H1.out _ (HW.out.later HB0.out)).mono ?_; rintro e w1 ⟨⟨V1, hI1, rfl⟩, hb1⟩; have HB1 := Lib.hid (HB0.out.trans (hb1.mono HB0.out.size)); have e1 := same_word hI1 HO.out; clear hb1 hI1; have HA1 := Lib.hid (HB1.out.alloc HB1.out.size (.cells #[.int .i64 3, .bool false, .int .i64 0, .float .f64 V1, .string ByteArray.empty, .slice none 0 0, .bool false] 31)); have HX1 := Lib.hid (Box.new w1 3 0 V1))
    | (go_at_call 10; refine (H2.out _ (HW.out.later HA1.out)).mono ?_; rintro e w2 ⟨⟨V2, hI2, rfl⟩, hb2⟩; have HB2 := Lib.hid (HA1.out.trans (hb2.mono HA1.out.size)); have e2 := same_word hI2 HO.out; have HY1 := Lib.hid (HX1.out.later hb2); clear hb2 hI2; have HA2 := Lib.hid (HB2.out.alloc HB2.out.size (.cells #[.int .i64 3, .bool false, .int .i64 0, .float .f64 V2, .string ByteArray.empty, .slice none 0 0, .bool false] 31)); have HX2 := Lib.hid (Box.new w2 3 0 V2); have HZ1 := Lib.hid (HY1.out.alloc (.cells #[.int .i64 3, .bool false, .int .i64 0, .float .f64 V2, .string ByteArray.empty, .slice none 0 0, .bool false] 31)))
    | (go_at_call 10; refine (H3.out _ (HW.out.later HA2.out)).mono ?_; rintro e w3 ⟨⟨V3, hI3, rfl⟩, hb3⟩; have HB3 := Lib.hid (HA2.out.trans (hb3.mono HA2.out.size)); have e3 := same_word hI3 HO.out; have HU1 := Lib.hid (HZ1.out.later hb3); have HU2 := Lib.hid (HX2.out.later hb3); clear hb3 hI3; have HA3 := Lib.hid (HB3.out.alloc HB3.out.size (.cells #[.int .i64 3, .bool false, .int .i64 0, .float .f64 V3, .string ByteArray.empty, .slice none 0 0, .bool false] 31)); have HX3 := Lib.hid (Box.new w3 3 0 V3); have HV1 := Lib.hid (HU1.out.alloc (.cells #[.int .i64 3, .bool false, .int .i64 0, .float .f64 V3, .string ByteArray.empty, .slice none 0 0, .bool false] 31)); have HV2 := Lib.hid (HU2.out.alloc (.cells #[.int .i64 3, .bool false, .int .i64 0, .float .f64 V3, .string ByteArray.empty, .slice none 0 0, .bool false] 31)))
    | (go_at_call 10; refine (H4.out _).mono ?_; rintro e w4 ⟨rfl, hb4⟩; have HB4 := Lib.hid (HA3.out.trans (hb4.mono HA3.out.size)); have b1 := HV1.out.later hb4; have b2 := HV2.out.later hb4; have b3 := HX3.out.later hb4; clear hb4; have l1 := b1.lt; have l2 := b2.lt; have l3 := b3.lt; have x1 := b1.kind; have y1 := b1.val; have x2 := b2.kind; have y2 := b2.val; have x3 := b3.kind; have y3 := b3.val; clear b1 b2 b3; have n1 : w1.heap.size ≠ w4.heap.size := Nat.ne_of_lt l1; have n2 : w2.heap.size ≠ w4.heap.size := Nat.ne_of_lt l2; have n3 : w3.heap.size ≠ w4.heap.size := Nat.ne_of_lt l3))
  go_ret
  exact ⟨rfl, HB4.out.alloc HB4.out.size _⟩
end Go.Proofs.YtngdcnljbfkneabGreatDoor
