/- The walk of FnParseNumberFractionForms. -/
import Derived.Test.YtngdcnljbfkneabGreatDoorPnE
import Derived.Test.YtngdcnljbfkneabGreatDoorItoaP
namespace Go.Proofs.YtngdcnljbfkneabGreatDoor
open Go.RowKit Go.Dec Go.Lib Go.Deep

theorem tx_app (n : Int) (tail : List UInt8) : (⟨(itoa n).toArray⟩ : ByteArray) ++ ⟨tail.toArray⟩ = tx n tail := by
  unfold tx
  apply ByteArray.ext
  rw [ByteArray.data_append]
  simp
/-- What the law wants of the world. -/
structure LawX (w : World) : Prop where
  base : LawW w
  p3 : PfW3 w
  ec : ErrCells w
theorem LawX.later {w w' : World} (h : LawX w) (hb : Below w.heap.size w w') : LawX w' := ⟨h.base.later hb, h.p3.later hb, h.ec.later hb⟩
/-- ZZparseNumber where parseNumber answers a float64. -/
def ZzF (s : ByteArray) (Q : Nat → Prop) (w : World) : Prop :=
  Calls Tryz.prog 6 #[.string s] w fun e w' => (∃ V, Q V ∧ e = .returned (.tuple #[.int .i64 2, .int .i64 0, .float .f64 V, .string ⟨#[]⟩])) ∧ Below w.heap.size w w'
set_option maxRecDepth 100000 in
set_option maxHeartbeats 2000000 in
theorem zz_of (s : ByteArray) (Q : Nat → Prop) (w : World) (h : Calls Tryz.prog 11 #[.string s] w fun e w' => (∃ V, Q V ∧ e = .returned (.iface 23 (.float .f64 V))) ∧ Below w.heap.size w w') : ZzF s Q w := by
  unfold ZzF
  have H := Lib.hid h
  clear h
  go_enter Tryz.func6, Tryz.ntmps6
  go_wp2_with (go_at_call 11; refine H.out.mono ?_; rintro e w1 ⟨⟨V, hV, rfl⟩, hb⟩; have HB := Lib.hid hb; have HQ := Lib.hid hV; clear hb hV)
  go_returns
  exact ⟨⟨V, HQ.out, rfl⟩, HB.out⟩
def sfx (k : Nat) : List UInt8 := match k with | 0 => [46, 48] | 1 => [101, 48] | 2 => [69, 43, 48, 48] | 3 => [46, 48, 48, 48, 101, 45, 48] | _ => [101, 57, 57, 57]
theorem zz_dot (n : Int) (hn : n.natAbs ≤ 9007199254740992) (w : World) (hX : LawX w) : ZzF (tx n [46, 48]) (fun V => FloatKey.Is V n 0) w :=
  zz_of _ _ w (pn_frac n (by omega) 46 [48] (by decide) (by unfold Mark; decide) (fun w hp => num_dot n hn w hp) w hX.base)
theorem zz_e0 (n : Int) (hn : n.natAbs ≤ 9007199254740992) (w : World) (hX : LawX w) : ZzF (tx n [101, 48]) (fun V => FloatKey.Is V n 0) w :=
  zz_of _ _ w (pn_frac n (by omega) 101 [48] (by decide) (by unfold Mark; decide) (fun w hp => num_e0 n hn w hp) w hX.base)
theorem zz_E00 (n : Int) (hn : n.natAbs ≤ 9007199254740992) (w : World) (hX : LawX w) : ZzF (tx n [69, 43, 48, 48]) (fun V => FloatKey.Is V n 0) w :=
  zz_of _ _ w (pn_frac n (by omega) 69 [43, 48, 48] (by decide) (by unfold Mark; decide) (fun w hp => num_E00 n hn w hp) w hX.base)
theorem zz_nil (w : World) (hX : LawX w) : ZzF (tx 0 [101, 57, 57, 57]) (fun V => FloatKey.Is V 0 0) w :=
  zz_of _ _ w (pn_frac 0 (by decide) 101 [57, 57, 57] (by decide) (by unfold Mark; decide) (fun w hp => num_nil_e9 w hp) w hX.base)
theorem zz_inf (n : Int) (h0 : n ≠ 0) (hn : n.natAbs ≤ 9007199254740992) (w : World) (hX : LawX w) : ZzF (tx n [101, 57, 57, 57]) (fun V => V = infW (decide (n < 0))) w :=
  zz_of _ _ w ((pn_inf n h0 hn w hX.base hX.ec).mono fun _ _ h => ⟨⟨_, rfl, h.1⟩, h.2⟩)
set_option maxRecDepth 100000 in
set_option maxHeartbeats 2000000 in
theorem pn_milli (n : Int) (hn : n.natAbs ≤ 9007199254740992) (w : World) (hX : LawX w) :
    Calls Tryz.prog 11 #[.string (tx n [46, 48, 48, 48, 101, 45, 48])] w fun e w' => (∃ V, FloatKey.Is V n 0 ∧ e = .returned (.iface 23 (.float .f64 V))) ∧ Below w.heap.size w w' := by
  have H1 := Lib.hid (int64_bad n (by omega) 46 [48, 48, 48, 101, 45, 48] (by decide) (by decide) w hX.base.err)
  have H2 := Lib.hid fun w => tail_at n (by omega) 46 [48, 48, 48, 101, 45, 48] (by decide) (by unfold Mark; decide) w
  have HW := Lib.hid hX
  have HF := Lib.hid (fun w hp => num_milli n hn w hp)
  obtain ⟨s, hs⟩ : ∃ s, tx n [46, 48, 48, 48, 101, 45, 48] = s := ⟨_, rfl⟩
  rw [hs] at H1 H2 HF ⊢
  clear hs hn hX
  go_enter Tryz.func11, Tryz.ntmps11
  go_wp2_with (first
    | (go_at_call 15; refine H1.out.mono ?_; rintro e w1 ⟨⟨u, x, rfl⟩, hb⟩; have HB := Lib.hid hb; clear hb)
    | (go_at_call 17; refine (num_str s _).mono ?_; rintro e w2 ⟨rfl, rfl⟩)
    | (go_at_call 16; refine (H2.out _).mono ?_; rintro e w3 ⟨rfl, hb⟩; have HB3 := Lib.hid (HB.out.trans (hb.mono HB.out.size)); clear hb)
    | (go_at_call 18; obtain ⟨V, hI, hC⟩ := (HF.out _ (HW.out.later HB3.out).p3).ex; refine hC.mono ?_; rintro e w4 ⟨rfl, hb⟩; have HB4 := Lib.hid (HB3.out.trans (hb.mono HB3.out.size)); clear hb hC))
  go_returns
  exact ⟨⟨V, hI, rfl⟩, HB4.out⟩
theorem zz_milli (n : Int) (hn : n.natAbs ≤ 9007199254740992) (w : World) (hX : LawX w) : ZzF (tx n [46, 48, 48, 48, 101, 45, 48]) (fun V => FloatKey.Is V n 0) w := zz_of _ _ w (pn_milli n hn w hX)
theorem pos_inf (w : World) : Calls Tryz.prog 7 #[.float .f64 9218868437227405312] w fun e w' => e = .returned (.bool true) ∧ w = w' := by
  have h : (FloatKind.f64.format.order 9218868437227405312 9218868437227405311 == some .gt) = true := by decide +kernel
  go_enter Tryz.func7, Tryz.ntmps7
  go_wp2
  go_ret
  exact ⟨rfl, rfl⟩
theorem neg_inf (w : World) : Calls Tryz.prog 8 #[.float .f64 18442240474082181120] w fun e w' => e = .returned (.bool true) ∧ w = w' := by
  have h : (FloatKind.f64.format.order 18442240474082181120 18442240474082181119 == some .lt) = true := by decide +kernel
  go_enter Tryz.func8, Tryz.ntmps8
  go_wp2
  go_ret
  exact ⟨rfl, rfl⟩
theorem same_bit {V F : Nat} {n : Int} (h : FloatKey.Is V n 0) (k : FloatKey.Is F n 0) : (FloatKind.f64.format.order V F == some .eq) = true := (FloatKey.ord_eq h k).trans (decide_eq_true rfl)
end Go.Proofs.YtngdcnljbfkneabGreatDoor
