/- The walk of FnToNumberFractionalFormsOfAnInteger. -/
import Derived.Test.YtngdcnljbfkneabGreatDoorPnA
namespace Go.Proofs.YtngdcnljbfkneabGreatDoor
open Go.RowKit Go.Dec Go.Lib Go.Deep

@[go_sem] theorem run_store_float (P : Program) (w : World) (a : Addr) (m : Mode) (k : FloatKind) (b : Nat) : (store a (.float k b) m).run P w = stored P w a (.float k b) m := run_store P w a _ m rfl
def outI (n : Int) : Value := .agg #[.int .i64 2, .bool false, .int .i64 n, .float .f64 0, .string ByteArray.empty, .slice none 0 0, .bool false]
def outF (V : Nat) : Value := .agg #[.int .i64 3, .bool false, .int .i64 0, .float .f64 V, .string ByteArray.empty, .slice none 0 0, .bool false]
theorem zzout_int (n : Int) (W : World) : Calls Tryz.prog 13 #[.iface 3 (.int .i64 n)] W fun e w' => e = .returned (.agg #[.int .i64 2, .bool false, .int .i64 n, .float .f64 0, .string ByteArray.empty, .slice none 0 0, .bool false]) ∧ Below W.heap.size W w' := by
  go_enter Tryz.func13, Tryz.ntmps13
  go_wp2
  refine bodyPost_ret (v := .agg #[.int .i64 2, .bool false, .int .i64 n, .float .f64 0, .string ByteArray.empty, .slice none 0 0, .bool false]) ?_ rfl ⟨rfl, ?_⟩
  · simp [results, Tryz.results13, go_sem]
    try rfl
  · go_grown
theorem zzout_float (V : Nat) (W : World) : Calls Tryz.prog 13 #[.iface 23 (.float .f64 V)] W fun e w' => e = .returned (.agg #[.int .i64 3, .bool false, .int .i64 0, .float .f64 V, .string ByteArray.empty, .slice none 0 0, .bool false]) ∧ Below W.heap.size W w' := by
  go_enter Tryz.func13, Tryz.ntmps13
  go_wp2
  refine bodyPost_ret (v := .agg #[.int .i64 3, .bool false, .int .i64 0, .float .f64 V, .string ByteArray.empty, .slice none 0 0, .bool false]) ?_ rfl ⟨rfl, ?_⟩
  · simp [results, Tryz.results13, go_sem]
    try rfl
  · go_grown
theorem tn_int (n : Int) (hn : n.natAbs < 9223372036854775808) (w : World) : Calls Tryz.prog 14 #[.string (tx n [])] w fun e w' => e = .returned (.iface 3 (.int .i64 n)) ∧ Below w.heap.size w w' := by
  have H := Lib.hid (pn_int n hn w)
  obtain ⟨s, hs⟩ : ∃ s, tx n [] = s := ⟨_, rfl⟩
  rw [hs] at H ⊢
  clear hs hn
  go_enter Tryz.func14, Tryz.ntmps14
  go_wp2_with (go_at_call 11; refine H.out.mono ?_; rintro e w1 ⟨rfl, hb⟩; have HB := Lib.hid hb; clear hb)
  go_returns
  exact ⟨rfl, HB.out⟩
theorem tn_frac (s : ByteArray) (n : Int) (w : World) (h : FracOk s n 11 w) : FracOk s n 14 w := by
  unfold FracOk at h ⊢
  have H := Lib.hid h
  clear h
  go_enter Tryz.func14, Tryz.ntmps14
  go_wp2_with (go_at_call 11; refine H.out.mono ?_; rintro e w1 ⟨⟨V, hI, rfl⟩, hb⟩; have HB := Lib.hid hb; clear hb)
  go_returns
  exact ⟨⟨V, hI, rfl⟩, HB.out⟩
set_option maxRecDepth 100000 in
set_option maxHeartbeats 2000000 in
theorem raw_int (n : Int) (hn : n.natAbs < 9223372036854775808) (W : World) : Calls Tryz.prog 10 #[.string (tx n [])] W fun e w' => e = .returned (.agg #[.int .i64 2, .bool false, .int .i64 n, .float .f64 0, .string ByteArray.empty, .slice none 0 0, .bool false]) ∧ Below W.heap.size W w' := by
  have H1 := Lib.hid (fun w => tn_int n hn w)
  obtain ⟨s, hs⟩ : ∃ s, tx n [] = s := ⟨_, rfl⟩
  rw [hs] at H1 ⊢
  clear hs hn
  go_enter Tryz.func10, Tryz.ntmps10
  go_wp2_with (first
    | (go_at_call 14; refine (H1.out _).mono ?_; rintro e w1 ⟨rfl, hb1⟩; have r0 := (hb1.block W.heap.size (by simp)).trans (heap_alloc_new W (.cells #[.int .i64 0, .bool false, .int .i64 0, .float .f64 0, .string ByteArray.empty, .slice none 0 0, .bool false] 31)); have HB1 := Lib.hid (((Below.refl W.heap.size W).alloc (Nat.le_refl _) (.cells #[.int .i64 0, .bool false, .int .i64 0, .float .f64 0, .string ByteArray.empty, .slice none 0 0, .bool false] 31)).trans (hb1.mono (by simp))); clear hb1)
    | (go_at_call 13; refine (zzout_int n _).mono ?_; rintro e w2 ⟨rfl, hb2⟩; have r1 := (hb2.block W.heap.size (Array.getElem?_eq_some_iff.1 r0).1).trans r0; have HB2 := Lib.hid (HB1.out.trans (hb2.mono HB1.out.size)); clear hb2 r0; have rc0 : w2.cell? ⟨W.heap.size, 0, none⟩ = some (.int .i64 0) := cell_of_row _ _ 0 _ _ (0, 0) r1; have rc1 : w2.cell? ⟨W.heap.size, 1, none⟩ = some (.bool false) := cell_of_row _ _ 1 _ _ (0, 0) r1; have rc2 : w2.cell? ⟨W.heap.size, 2, none⟩ = some (.int .i64 0) := cell_of_row _ _ 2 _ _ (0, 0) r1; have rc3 : w2.cell? ⟨W.heap.size, 3, none⟩ = some (.float .f64 0) := cell_of_row _ _ 3 _ _ (0, 0) r1; have rc4 : w2.cell? ⟨W.heap.size, 4, none⟩ = some (.string ByteArray.empty) := cell_of_row _ _ 4 _ _ (0, 0) r1; have rc5 : w2.cell? ⟨W.heap.size, 5, none⟩ = some (.slice none 0 0) := cell_of_row _ _ 5 _ _ (0, 0) r1; have rc6 : w2.cell? ⟨W.heap.size, 6, none⟩ = some (.bool false) := cell_of_row _ _ 6 _ _ (0, 0) r1; have rf : ∀ o, w2.frozen? ⟨W.heap.size, o, none⟩ = false := fun o => by simp [World.frozen?, show w2.heap[W.heap.size]? = _ from r1]))
  refine bodyPost_ret (v := (.agg #[.int .i64 2, .bool false, .int .i64 n, .float .f64 0, .string ByteArray.empty, .slice none 0 0, .bool false])) ?_ rfl ⟨rfl, ?_⟩
  · simp [results, Tryz.results10, go_sem, rc0, rc1, rc2, rc3, rc4, rc5, rc6]
    try rfl
  · go_grown
    exact HB2.out
def FracRaw (s : ByteArray) (n : Int) (w : World) : Prop :=
  Calls Tryz.prog 10 #[.string s] w fun e w' => (∃ V, FloatKey.Is V n 0 ∧ e = .returned (.agg #[.int .i64 3, .bool false, .int .i64 0, .float .f64 V, .string ByteArray.empty, .slice none 0 0, .bool false])) ∧ Below w.heap.size w w'
set_option maxRecDepth 100000 in
set_option maxHeartbeats 2000000 in
theorem raw_frac (n : Int) (hn : n.natAbs < 9223372036854775808) (c : UInt8) (r : List UInt8) (hr : r.length ≤ 100) (hc : Mark c.toNat) (hF : ∀ w, PfW1 w → NumF (tx n (c :: r)) n w) (W : World) (hW : LawW W) : FracRaw (tx n (c :: r)) n W := by
  unfold FracRaw
  have H1 := Lib.hid (fun w (hw : LawW w) => tn_frac _ n w (pn_frac n hn c r hr hc hF w hw))
  have HW := Lib.hid hW
  have ha : Below W.heap.size W (W.alloc (.cells #[.int .i64 0, .bool false, .int .i64 0, .float .f64 0, .string ByteArray.empty, .slice none 0 0, .bool false] 31)) := (Below.refl W.heap.size W).alloc (Nat.le_refl _) (.cells #[.int .i64 0, .bool false, .int .i64 0, .float .f64 0, .string ByteArray.empty, .slice none 0 0, .bool false] 31)
  have HA := Lib.hid (hW.later ha)
  obtain ⟨s, hs⟩ : ∃ s, tx n (c :: r) = s := ⟨_, rfl⟩
  rw [hs] at H1 ⊢
  clear hs hn hc hr hF hW ha
  go_enter Tryz.func10, Tryz.ntmps10
  go_wp2_with (first
    | (go_at_call 14; refine (H1.out _ HA.out).mono ?_; rintro e w1 ⟨⟨V, hI, rfl⟩, hb1⟩; have r0 := (hb1.block W.heap.size (by simp)).trans (heap_alloc_new W (.cells #[.int .i64 0, .bool false, .int .i64 0, .float .f64 0, .string ByteArray.empty, .slice none 0 0, .bool false] 31)); have HB1 := Lib.hid (((Below.refl W.heap.size W).alloc (Nat.le_refl _) (.cells #[.int .i64 0, .bool false, .int .i64 0, .float .f64 0, .string ByteArray.empty, .slice none 0 0, .bool false] 31)).trans (hb1.mono (by simp))); clear hb1)
    | (go_at_call 13; refine (zzout_float V _).mono ?_; rintro e w2 ⟨rfl, hb2⟩; have r1 := (hb2.block W.heap.size (Array.getElem?_eq_some_iff.1 r0).1).trans r0; have HB2 := Lib.hid (HB1.out.trans (hb2.mono HB1.out.size)); clear hb2 r0; have rc0 : w2.cell? ⟨W.heap.size, 0, none⟩ = some (.int .i64 0) := cell_of_row _ _ 0 _ _ (0, 0) r1; have rc1 : w2.cell? ⟨W.heap.size, 1, none⟩ = some (.bool false) := cell_of_row _ _ 1 _ _ (0, 0) r1; have rc2 : w2.cell? ⟨W.heap.size, 2, none⟩ = some (.int .i64 0) := cell_of_row _ _ 2 _ _ (0, 0) r1; have rc3 : w2.cell? ⟨W.heap.size, 3, none⟩ = some (.float .f64 0) := cell_of_row _ _ 3 _ _ (0, 0) r1; have rc4 : w2.cell? ⟨W.heap.size, 4, none⟩ = some (.string ByteArray.empty) := cell_of_row _ _ 4 _ _ (0, 0) r1; have rc5 : w2.cell? ⟨W.heap.size, 5, none⟩ = some (.slice none 0 0) := cell_of_row _ _ 5 _ _ (0, 0) r1; have rc6 : w2.cell? ⟨W.heap.size, 6, none⟩ = some (.bool false) := cell_of_row _ _ 6 _ _ (0, 0) r1; have rf : ∀ o, w2.frozen? ⟨W.heap.size, o, none⟩ = false := fun o => by simp [World.frozen?, show w2.heap[W.heap.size]? = _ from r1]))
  refine bodyPost_ret (v := (.agg #[.int .i64 3, .bool false, .int .i64 0, .float .f64 V, .string ByteArray.empty, .slice none 0 0, .bool false])) ?_ rfl ⟨⟨V, hI, rfl⟩, ?_⟩
  · simp [results, Tryz.results10, go_sem, rc0, rc1, rc2, rc3, rc4, rc5, rc6]
    try rfl
  · go_grown
    exact HB2.out
end Go.Proofs.YtngdcnljbfkneabGreatDoor
