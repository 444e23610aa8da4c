/- Common to the laws of this seat: small lemmas for the rows' steps, and the witness world in which the listed variables are laid. -/
import Derived.Test.YtngdcnljbfkneabGreatDoorCards
import Derived.Test.YtngdcnljbfkneabGreatDoorTie
import Derived.WalkKit
import Derived.ProofKit
import Derived.OpenShut
import Derived.OpenVars
import Derived.Lay
import Derived.SevenTiedAt
namespace Go.Proofs.YtngdcnljbfkneabGreatDoor
open Go.ChangeShapes Go.WideShapes Go.ChangeAt Go.RowKit

theorem own : ownKnob Tryz.prog.godebug = none := by kernel_rfl
theorem laidOut : laidOutB Tryz.prog = true := by kernel_rfl

theorem trodVars_len {H : Type} {enc : TypeId × Value → H} {P : Program} {W : World} {sp : Nat → Bool} :
    ∀ {ns : List String} {gs : List (DataW H)} {ps : List MemPlace}, DataW.TrodVars enc P W sp ns gs ps → gs.length = ns.length
  | [], [], _, _ => rfl
  | [], _ :: _, _, h => h.elim
  | _ :: _, [], _, h => h.elim
  | _ :: ns, _ :: gs, _, h => by
    obtain ⟨_, _, _, _, _, _, _, _, _, _, hs, _⟩ := h
    simp only [List.length_cons, trodVars_len hs]

/-- Every argument reads behind the call as it did, whatever its type, where below the heap's old size nothing has turned. -/
theorem below_trodAll {H : Type} {enc : TypeId × Value → H} {P : Program} (hl : laidOutB P = true) {W W' : World} (hb : Below W.heap.size W W') :
    ∀ {ts : List TypeId} {vs : List Value} {ds : List (DataW H)} {ps : List MemPlace}, (ts.all fun t => P.readableRec t && decide (t < P.types.size)) = true →
      DataW.TrodAll enc P W 0 (fun _ => true) true ts vs ds ps → (∀ x ∈ ps, x.block < W.heap.size) → DataW.TrodAll enc P W' 0 (fun b => decide (b < W.heap.size)) true ts vs ds ps
  | [], vs, ds, ps, _, h, _ => by
    obtain ⟨rfl, rfl, rfl⟩ := trodAll_nil h
    exact trodAll_mk0
  | t :: ts, vs, ds, ps, ha, h, hlt => by
    obtain ⟨v0, vs0, d0, ds0, p0, q0, rfl, rfl, rfl, h0, r0⟩ := trodAll_cons h
    simp only [List.all_cons, Bool.and_eq_true, decide_eq_true_eq] at ha
    exact trodAll_cons_mk (Below.trod hl ha.1.1 ha.1.2 h0 hb (fun x hx => hlt x (List.mem_append_left _ hx))) (below_trodAll hl hb (by simpa using ha.2) r0 (fun x hx => hlt x (List.mem_append_right _ hx)))

/-- The variables that every row of this seat lists, and the world of the witness. -/
noncomputable def seatLaid : List (String × DataW Unit) := Rows.fnToNumberFractionalFormsOfAnIntegerRow.laid
noncomputable def seatWorld (os : Os) : World := World.laidAll Tryz.prog os seatLaid
theorem seat_met (os : Os) (args : Array Value) : laidMetH Tryz.prog seatLaid ((seatWorld os).forCall (fun _ _ => 0) ⟨#[], args, []⟩).memory := by
  rw [MakeChecks.laidMetH_plain _ _ _ (by kernel_rfl)]
  exact laidMet_laidAll _ (by kernel_rfl) (by kernel_rfl)
theorem seat_shaped (os : Os) (args : Array Value) : ((seatWorld os).forCall (fun _ _ => 0) ⟨#[], args, []⟩).Shaped Tryz.prog :=
  World.shaped_of_ZipB (by kernel_rfl) (by kernel_rfl)
theorem seat_os (os : Os) : (seatWorld os).os = os := World.laidAll_os _ _ _
end Go.Proofs.YtngdcnljbfkneabGreatDoor
