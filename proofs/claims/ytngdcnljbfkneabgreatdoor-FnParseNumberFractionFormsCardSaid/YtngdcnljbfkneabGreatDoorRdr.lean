/- Contracts: strings.Reader's ReadByte and UnreadByte. -/
import Derived.Test.YtngdcnljbfkneabGreatDoorPnA
import Derived.Deep.QuietTactic
import Derived.BigQuiet
namespace Go.Proofs.YtngdcnljbfkneabGreatDoor
open Go.RowKit Go.Dec Go.Lib Go.Deep

def RdAt (w : World) (b : Nat) (s : ByteArray) (i p : Int) : Prop := w.heap[b]? = some (.cells #[.string s, .int .i64 i, .int .i64 p] 75 (0, 0))
theorem RdAt.lt {w : World} {b : Nat} {s : ByteArray} {i p : Int} (h : RdAt w b s i p) : b < w.heap.size := (Array.getElem?_eq_some_iff.1 h).1
theorem RdAt.set1 {w : World} {b : Nat} {s : ByteArray} {i p : Int} (h : RdAt w b s i p) (j : Int) : RdAt (w.setCell ⟨b, 1, none⟩ (.int .i64 j)) b s j p := by
  unfold RdAt at h ⊢
  unfold World.setCell
  simp only []
  rw [Array.getElem?_modify, if_pos rfl, h]
  rfl
theorem RdAt.set2 {w : World} {b : Nat} {s : ByteArray} {i p : Int} (h : RdAt w b s i p) (j : Int) : RdAt (w.setCell ⟨b, 2, none⟩ (.int .i64 j)) b s i j := by
  unfold RdAt at h ⊢
  unfold World.setCell
  simp only []
  rw [Array.getElem?_modify, if_pos rfl, h]
  rfl
theorem size_set (w : World) (a : Addr) (v : Value) : (w.setCell a v).heap.size = w.heap.size := by simp [World.setCell]
structure RdFacts (w : World) (b : Nat) (s : ByteArray) (i p : Int) : Prop where
  c0 : w.cell? ⟨b, 0, none⟩ = some (.string s)
  c1 : w.cell? ⟨b, 1, none⟩ = some (.int .i64 i)
  c2 : w.cell? ⟨b, 2, none⟩ = some (.int .i64 p)
  fz : ∀ o, w.frozen? ⟨b, o, none⟩ = false
theorem RdAt.facts {w : World} {b : Nat} {s : ByteArray} {i p : Int} (h : RdAt w b s i p) : RdFacts w b s i p :=
  ⟨cell_of_row _ _ 0 _ _ (0, 0) h, cell_of_row _ _ 1 _ _ (0, 0) h, cell_of_row _ _ 2 _ _ (0, 0) h, fun o => by simp [World.frozen?, show w.heap[b]? = _ from h]⟩
set_option maxRecDepth 100000 in
set_option maxHeartbeats 4000000 in
theorem read_in (s : ByteArray) (i : Nat) (hi : i < s.size) (hs : s.size ≤ 1000) (c : Int) (hc : ((s.data.toList.getD i 0).toNat : Int) = c) (b : Nat) (p : Int) (w : World) (h : RdAt w b s i p) :
    Calls Tryz.prog 239 #[.pointer (some ⟨b, 0, none⟩)] w fun e w' => e = .returned (.tuple #[.int .u8 c, .nilIface]) ∧ RdAt w' b s ((i : Int) + 1) (-1) ∧ Below b w w' ∧ w'.heap.size = w.heap.size := by
  obtain ⟨rc0, rc1, rc2, rf⟩ := h.facts
  obtain ⟨w1, hw1⟩ : ∃ w1, w.setCell ⟨b, 2, none⟩ (.int .i64 (-1)) = w1 := ⟨_, rfl⟩
  have h1 : RdAt w1 b s i (-1) := by rw [← hw1]; exact h.set2 _
  have B1 : Below b w w1 := by rw [← hw1]; exact (Below.refl b w).setCell (Nat.le_refl _) _
  have S1 : w1.heap.size = w.heap.size := by rw [← hw1]; exact size_set _ _ _
  have H1 := Lib.hid h1
  have HB1 := Lib.hid B1
  have HS1 := Lib.hid S1
  have i0 := fun (w : World) => idx_at s i i c rfl hi hc w
  clear h hc B1 S1
  go_enter Tryz.func239, Tryz.ntmps239
  go_wp2
  clear rc0 rc1 rc2 rf
  clear hw1
  obtain ⟨rc0, rc1, rc2, rf⟩ := H1.out.facts
  go_quiet (fail)
  go_wp2
  go_quiet (fail)
  go_wp2
  go_returns
  refine ⟨rfl, H1.out.set1 _, (below_dN HB1.out _).setCell (Nat.le_refl _) _, ?_⟩
  rw [size_set]
  exact HS1.out
set_option maxRecDepth 100000 in
set_option maxHeartbeats 4000000 in
theorem unread_at (s : ByteArray) (i : Nat) (hs : i ≤ 1000) (b : Nat) (p : Int) (w : World) (h : RdAt w b s ((i : Int) + 1) p) :
    Calls Tryz.prog 240 #[.pointer (some ⟨b, 0, none⟩)] w fun e w' => e = .returned .nilIface ∧ RdAt w' b s i (-1) ∧ Below b w w' ∧ w'.heap.size = w.heap.size := by
  obtain ⟨rc0, rc1, rc2, rf⟩ := h.facts
  have hi : (0 : Int) < (i : Int) + 1 := by omega
  obtain ⟨w1, hw1⟩ : ∃ w1, w.setCell ⟨b, 2, none⟩ (.int .i64 (-1)) = w1 := ⟨_, rfl⟩
  have h1 : RdAt w1 b s ((i : Int) + 1) (-1) := by rw [← hw1]; exact h.set2 _
  have B1 : Below b w w1 := by rw [← hw1]; exact (Below.refl b w).setCell (Nat.le_refl _) _
  have S1 : w1.heap.size = w.heap.size := by rw [← hw1]; exact size_set _ _ _
  have H1 := Lib.hid h1
  have HB1 := Lib.hid B1
  have HS1 := Lib.hid S1
  obtain ⟨c0, c1, c2, cf⟩ := h1.facts
  clear h B1 S1 h1
  go_enter Tryz.func240, Tryz.ntmps240
  go_wp2
  go_returns
  refine ⟨rfl, ?_, HB1.out.setCell (Nat.le_refl _) _, ?_⟩
  · have := H1.out.set1 (i : Int)
    exact this
  · rw [size_set]
    exact HS1.out
/-! ### bigall.scanSign -/
set_option maxRecDepth 100000 in
set_option maxHeartbeats 4000000 in
theorem sign_at (s : ByteArray) (hs : s.size ≤ 1000) (h0 : 0 < s.size) (c : Int) (hc : ((s.data.toList.getD 0 0).toNat : Int) = c) (neg : Bool) (hneg : (c == 45) = neg) (hp : (c == 43) = false) (b : Nat) (w : World) (h : RdAt w b s 0 (-1)) :
    Calls Tryz.prog 50 #[.iface 63 (.pointer (some ⟨b, 0, none⟩))] w fun e w' => e = .returned (.tuple #[.bool neg, .nilIface]) ∧ RdAt w' b s (if neg then 1 else 0) (-1) ∧ Below b w w' ∧ w'.heap.size = w.heap.size := by
  have HR := Lib.hid (read_in s 0 h0 hs c hc b (-1) w h)
  have HU := Lib.hid (fun w (h : RdAt w b s (((0 : Nat) : Int) + 1) (-1)) => unread_at s 0 (by decide) b (-1) w h)
  clear h hc
  cases neg <;> (
    go_enter Tryz.func50, Tryz.ntmps50
    go_wp2_with (first
      | (go_at_call 239; refine HR.out.mono ?_; rintro e w1 ⟨rfl, hr1, hb1, hs1⟩; have HR1 := Lib.hid hr1; have HB1 := Lib.hid hb1; have HS1 := Lib.hid hs1; clear hr1 hb1 hs1)
      | (go_at_call 240; refine (HU.out _ HR1.out).mono ?_; rintro e w2 ⟨rfl, hr2, hb2, hs2⟩; have HR2 := Lib.hid hr2; have HB2 := Lib.hid (HB1.out.trans hb2); have HS2 := Lib.hid (hs2.trans HS1.out); clear hr2 hb2 hs2))
    go_returns
    first
      | exact ⟨rfl, HR2.out, HB2.out, HS2.out⟩
      | exact ⟨rfl, HR1.out, HB1.out, HS1.out⟩)
end Go.Proofs.YtngdcnljbfkneabGreatDoor
