/- json.Number.Float64 at a number out of range (its text ends in 'e999'): an error. -/
import Derived.Test.YtngdcnljbfkneabGreatDoorPnA
import Derived.Shelf.Strconv.ToErrorRange
namespace Go.Proofs.YtngdcnljbfkneabGreatDoor
open Go.RowKit Go.Dec Go.Lib

/-- readFloat reads a whole number that is not zero, and a great power. -/
def ReadsE (s : ByteArray) (d : Nat) (E : Int) (neg : Bool) : Prop :=
  (∀ w, Calls Tryz.prog 92 #[.string s] w fun e w' => e = .returned (.tuple #[.float .f64 0, .int .i64 0, .bool false]) ∧ w = w') ∧
  (∀ w, Calls Tryz.prog 93 #[.string s] w fun e w' => e = .returned (.tuple #[.int .u64 d, .int .i64 E, .bool neg, .bool false, .bool false, .int .i64 s.size, .bool true]) ∧ w = w')
set_option maxRecDepth 100000 in
set_option maxHeartbeats 4000000 in
theorem atof_over (s : ByteArray) (d : Nat) (E : Int) (neg : Bool) (h0 : 0 < d) (hE : 310 < E) (hr : ReadsE s d E neg) (w : World) (ho : w.cell? ⟨12, 0, none⟩ = some (.bool true)) :
    Calls Tryz.prog 71 #[.string s] w fun e w' => e = .returned (.tuple #[.float .f64 (if neg then 18442240474082181120 else 9218868437227405312), .int .i64 s.size, .iface 89 (.int .i64 1)]) ∧ Below w.heap.size w w' := by
  have H1 := Lib.hid hr.1
  have H2 := Lib.hid hr.2
  obtain ⟨Z, hZ⟩ : ∃ Z : Nat, s.size = Z := ⟨_, rfl⟩
  rw [hZ] at H2
  rw [hZ]
  have hnz : ((d : Int) == 0) = false := by simp; omega
  clear hr
  cases neg <;> (
    go_enter Tryz.func71, Tryz.ntmps71
    go_wp2_with (first | (go_at_call 92; refine (H1.out _).mono ?_; rintro e w' ⟨rfl, rfl⟩) | (go_at_call 93; refine (H2.out _).mono ?_; rintro e w' ⟨rfl, rfl⟩) | (go_at_call 101; refine (b2u _ _).mono ?_; rintro e w' ⟨rfl, rfl⟩))
    go_returns
    exact ⟨rfl, Below.refl _ _⟩)

@[go_sem] theorem err_neq_held (u : TypeId) (x : Value) (w : World) : (binOp .neq 44 (.iface u x) .nilIface).run Tryz.prog w = .ok (.bool true) w := run_neq_held_nil w 44 u x (by kernel_rfl)
/-- What Float64 answers there: some number, and an error. -/
def Over (s : ByteArray) (w : World) : Prop := Calls Tryz.prog 18 #[.string s] w fun e w' => (∃ V u x, e = .returned (.tuple #[.float .f64 V, .iface u x])) ∧ Below w.heap.size w w'
set_option maxRecDepth 100000 in
set_option maxHeartbeats 4000000 in
theorem num_over (s : ByteArray) (hlim : s.size ≤ 100) (V : Nat) (ev : Value) (w : World) (hA : Calls Tryz.prog 71 #[.string s] w fun e w' => e = .returned (.tuple #[.float .f64 V, .int .i64 s.size, .iface 89 (.int .i64 1)]) ∧ Below w.heap.size w w')
    (hg : 4 < w.heap.size) (hv : w.cell? ⟨4, 0, none⟩ = some ev) (hev : ev = .nilIface ∨ ∃ te pe, ev = .iface te pe) : Over s w := by
  unfold Over
  have HT := Lib.hid (fun (w' : World) (hb : Below w.heap.size w w') => Any.strconv_toError_range { Tryz.pi174 with } ⟨#[80, 97, 114, 115, 101, 70, 108, 111, 97, 116]⟩ s 0 64 ev w' (by omega) ((hb.cell (p := ⟨4, 0, none⟩) hg).trans hv) hev)
  have HA := Lib.hid hA
  obtain ⟨Z, hZ⟩ : ∃ Z : Nat, s.size = Z := ⟨_, rfl⟩
  rw [hZ] at HA
  clear hA hg hv hev hlim
  have h1 : Calls Tryz.prog 49 #[.string s, .int .i64 64] w fun e w' => e = .returned (.tuple #[.float .f64 V, .int .i64 Z, .iface 89 (.int .i64 1)]) ∧ Below w.heap.size w w' := by
    go_enter Tryz.func49, Tryz.ntmps49
    go_wp2_with (go_at_call 71; refine HA.out.mono ?_; rintro e w' ⟨rfl, hb1⟩; have HB1 := Lib.hid hb1; clear hb1)
    go_returns
    exact ⟨rfl, HB1.out⟩
  have HQ := Lib.hid h1
  clear h1 HA
  have h2 : Calls Tryz.prog 33 #[.string s, .int .i64 64] w fun e w' => e = .returned (.tuple #[.float .f64 V, .iface 89 (.int .i64 1)]) ∧ Below w.heap.size w w' := by
    go_enter Tryz.func33, Tryz.ntmps33
    go_wp2_with (go_at_call 49; refine HQ.out.mono ?_; rintro e w' ⟨rfl, hb1⟩; have HB1 := Lib.hid hb1; clear hb1)
    go_returns
    exact ⟨rfl, HB1.out⟩
  have HR := Lib.hid h2
  clear h2 HQ hZ
  have h3 : Calls Tryz.prog 25 #[.string s, .int .i64 64] w fun e w' => (∃ u x, e = .returned (.tuple #[.float .f64 V, .iface u x])) ∧ Below w.heap.size w w' := by
    go_enter Tryz.func25, Tryz.ntmps25
    go_wp2_with (first
      | (go_at_call 33; refine HR.out.mono ?_; rintro e w1 ⟨rfl, hb1⟩; have HB1 := Lib.hid hb1; clear hb1)
      | (go_at_call 32; refine (HT.out _ HB1.out).mono ?_; rintro e w2 ⟨N, rfl, _, _, hb2⟩; have HB2 := Lib.hid (HB1.out.trans (hb2.mono HB1.out.size)); clear hb2))
    go_returns
    exact ⟨⟨_, _, rfl⟩, HB2.out⟩
  have HS := Lib.hid h3
  clear h3 HR HT
  go_enter Tryz.func18, Tryz.ntmps18
  go_wp2_with (go_at_call 25; refine HS.out.mono ?_; rintro e w' ⟨⟨u, x, rfl⟩, hb1⟩; have HB1 := Lib.hid hb1; clear hb1)
  go_returns
  exact ⟨⟨_, _, _, rfl⟩, HB1.out⟩
end Go.Proofs.YtngdcnljbfkneabGreatDoor
