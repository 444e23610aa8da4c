/- Closed facts of this program on the head of its build line. -/
import Derived.Test.YtonbnmpleecegabGreatDoorFrame
namespace Go.Proofs.YtonbnmpleecegabGreatDoor
def initSigns : List Char := List.map Char.ofNat [104, 97, 114, 110, 101, 115, 115, 32, 98, 50, 99, 100, 49, 50, 102, 57, 49, 53, 98, 53, 51, 98, 56, 48, 98, 49, 101, 54, 102, 98, 98, 51, 55, 100, 55, 48, 52, 102, 97, 55, 57, 98, 51, 55, 49, 49, 56, 99, 56, 53, 52, 97, 57, 100, 101, 57, 53, 52, 97, 55, 98, 49, 56, 51, 101, 57, 56, 97, 53, 102, 52, 100, 32, 99, 117, 116, 32, 97, 116, 32, 103, 105, 116, 104, 117, 98, 46, 99, 111, 109, 47, 105, 116, 99, 104, 121, 110, 121, 47, 103, 111, 106, 113, 47, 110, 48, 48, 49, 95, 53, 53, 46, 70, 110, 65, 100, 100, 67, 111, 110, 99, 97, 116, 101, 110, 97, 116, 101, 115, 65, 114, 114, 97, 121, 115, 32, 103, 105, 116, 104, 117, 98, 46, 99, 111, 109, 47, 105, 116, 99, 104, 121, 110, 121, 47, 103, 111, 106, 113, 47, 110, 48, 48, 49, 95, 53, 53, 46, 70, 110, 65, 100, 100, 67, 111, 110, 99, 97, 116, 101, 110, 97, 116, 101, 115, 84, 101, 120, 116, 115, 83, 107, 105, 112, 112, 105, 110, 103, 78, 117, 108, 108, 115]
theorem init_lit : Tryz.prog.initOrder = String.ofList initSigns := by kernel_rfl
theorem init_list : Tryz.prog.initOrder.toList = initSigns := (congrArg String.toList init_lit).trans String.toList_ofList
theorem lays_later : Tryz.prog.laysLater = false := by kernel_rfl
theorem bears_reflect : Tryz.prog.bearsReflect = false := by kernel_rfl
theorem door_fits : Tryz.prog.doorFits [] = true := by kernel_rfl
theorem strip_cut (R : List (List Char)) : stripLifts liftWords ("cut".toList :: R) = ([], "cut".toList :: R) := by kernel_rfl
theorem head_word : (behindMainWord (wordsSigns initSigns)).head? = some "cut".toList := by kernel_rfl
theorem mayEnter_of {P : Program} {R : List (List Char)} (hw : behindMainWord (wordsSigns P.initOrder.toList) = "cut".toList :: R) (hl : P.laysLater = false) (hr : P.bearsReflect = false) (hd : P.doorFits [] = true) : P.mayEnter = true := by
  unfold Program.mayEnter
  rw [hw]
  simp only []
  rw [strip_cut, hl, hr]
  simp only []
  rw [hd]
  have e : (("cut".toList :: R).head? == some "cut".toList) = true := by kernel_rfl
  rw [e]
  simp
theorem cons_of_head {ws : List (List Char)} {w : List Char} (h : ws.head? = some w) : ∃ R, ws = w :: R := by
  cases ws with
  | nil => cases h
  | cons a R => exact ⟨R, by rw [show a = w from Option.some.inj h]⟩
theorem pf_mayEnter : Tryz.prog.mayEnter = true := by
  obtain ⟨R, hR⟩ := cons_of_head head_word
  exact mayEnter_of (R := R) ((congrArg (fun l => behindMainWord (wordsSigns l)) init_list).trans hR) lays_later bears_reflect door_fits
end Go.Proofs.YtonbnmpleecegabGreatDoor
