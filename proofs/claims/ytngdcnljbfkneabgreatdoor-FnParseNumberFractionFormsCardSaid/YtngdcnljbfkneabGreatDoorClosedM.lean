/- Closed facts of this program on the head of its build line. -/
import Derived.Test.YtngdcnljbfkneabGreatDoorFrame
namespace Go.Proofs.YtngdcnljbfkneabGreatDoor
def initSigns : List Char := List.map Char.ofNat [104, 97, 114, 110, 101, 115, 115, 32, 56, 49, 48, 100, 101, 97, 51, 53, 99, 50, 48, 53, 99, 102, 99, 98, 99, 53, 102, 99, 52, 102, 49, 56, 51, 97, 99, 97, 99, 50, 101, 51, 101, 99, 102, 51, 101, 102, 53, 50, 50, 50, 52, 57, 53, 50, 52, 55, 52, 57, 98, 102, 48, 100, 97, 50, 55, 53, 97, 55, 98, 99, 48, 56, 32, 99, 117, 116, 32, 97, 116, 32, 103, 105, 116, 104, 117, 98, 46, 99, 111, 109, 47, 105, 116, 99, 104, 121, 110, 121, 47, 103, 111, 106, 113, 47, 110, 48, 48, 49, 95, 51, 52, 46, 70, 110, 80, 97, 114, 115, 101, 78, 117, 109, 98, 101, 114, 70, 114, 97, 99, 116, 105, 111, 110, 70, 111, 114, 109, 115, 32, 103, 105, 116, 104, 117, 98, 46, 99, 111, 109, 47, 105, 116, 99, 104, 121, 110, 121, 47, 103, 111, 106, 113, 47, 110, 48, 48, 49, 95, 53, 53, 46, 70, 110, 84, 111, 78, 117, 109, 98, 101, 114, 70, 114, 97, 99, 116, 105, 111, 110, 97, 108, 70, 111, 114, 109, 115, 79, 102, 65, 110, 73, 110, 116, 101, 103, 101, 114]
theorem init_lit : Tryz.prog.initOrder = String.ofList initSigns := by kernel_rfl
theorem init_list : Tryz.prog.initOrder.toList = initSigns := (congrArg String.toList init_lit).trans String.toList_ofList
theorem lays_later : Tryz.prog.laysLater = false := by kernel_rfl
theorem bears_reflect : Tryz.prog.bearsReflect = false := by kernel_rfl
theorem door_fits : Tryz.prog.doorFits [] = true := by kernel_rfl
theorem strip_cut (R : List (List Char)) : stripLifts liftWords ("cut".toList :: R) = ([], "cut".toList :: R) := by kernel_rfl
theorem head_word : (behindMainWord (wordsSigns initSigns)).head? = some "cut".toList := by kernel_rfl
theorem mayEnter_of {P : Program} {R : List (List Char)} (hw : behindMainWord (wordsSigns P.initOrder.toList) = "cut".toList :: R) (hl : P.laysLater = false) (hr : P.bearsReflect = false) (hd : P.doorFits [] = true) : P.mayEnter = true := by
  unfold Program.mayEnter
  rw [hw]
  simp only []
  rw [strip_cut, hl, hr]
  simp only []
  rw [hd]
  have e : (("cut".toList :: R).head? == some "cut".toList) = true := by kernel_rfl
  rw [e]
  simp
theorem cons_of_head {ws : List (List Char)} {w : List Char} (h : ws.head? = some w) : ∃ R, ws = w :: R := by
  cases ws with
  | nil => cases h
  | cons a R => exact ⟨R, by rw [show a = w from Option.some.inj h]⟩
theorem pf_mayEnter : Tryz.prog.mayEnter = true := by
  obtain ⟨R, hR⟩ := cons_of_head head_word
  exact mayEnter_of (R := R) ((congrArg (fun l => behindMainWord (wordsSigns l)) init_list).trans hR) lays_later bears_reflect door_fits
end Go.Proofs.YtngdcnljbfkneabGreatDoor
