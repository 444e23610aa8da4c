/- Closed facts of this program on the head of its build line. -/
import Derived.Test.YtonbnmpleecegaaGreatDoorFrame
namespace Go.Proofs.YtonbnmpleecegaaGreatDoor
def initSigns : List Char := List.map Char.ofNat [104, 97, 114, 110, 101, 115, 115, 32, 97, 97, 97, 55, 56, 53, 55, 97, 49, 49, 102, 56, 100, 97, 97, 53, 99, 48, 49, 48, 57, 49, 100, 101, 57, 55, 101, 53, 51, 55, 101, 49, 54, 97, 98, 100, 49, 51, 98, 57, 54, 101, 102, 48, 100, 102, 51, 48, 54, 52, 50, 97, 101, 99, 50, 53, 53, 48, 101, 102, 98, 98, 49, 53, 32, 99, 117, 116, 32, 97, 116, 32, 103, 105, 116, 104, 117, 98, 46, 99, 111, 109, 47, 105, 116, 99, 104, 121, 110, 121, 47, 103, 111, 106, 113, 47, 110, 48, 48, 49, 95, 51, 57, 46, 70, 110, 65, 114, 114, 97, 121, 84, 111, 84, 105, 109, 101, 70, 114, 97, 99, 116, 105, 111, 110, 97, 108, 83, 101, 99, 111, 110, 100, 32, 103, 105, 116, 104, 117, 98, 46, 99, 111, 109, 47, 105, 116, 99, 104, 121, 110, 121, 47, 103, 111, 106, 113, 47, 110, 48, 48, 49, 95, 51, 50, 46, 70, 110, 77, 107, 116, 105, 109, 101, 73, 110, 116, 76, 105, 115, 116, 80, 97, 100, 115, 77, 105, 115, 115, 105, 110, 103, 70, 105, 101, 108, 100, 115, 65, 110, 100, 73, 103, 110, 111, 114, 101, 115, 84, 97, 105, 108, 32, 103, 105, 116, 104, 117, 98, 46, 99, 111, 109, 47, 105, 116, 99, 104, 121, 110, 121, 47, 103, 111, 106, 113, 47, 110, 48, 48, 49, 95, 51, 57, 46, 70, 110, 65, 114, 114, 97, 121, 84, 111, 84, 105, 109, 101, 77, 97, 116, 99, 104, 101, 115, 67, 105, 118, 105, 108, 77, 111, 100, 101, 108]
theorem init_lit : Tryz.prog.initOrder = String.ofList initSigns := by kernel_rfl
theorem init_list : Tryz.prog.initOrder.toList = initSigns := (congrArg String.toList init_lit).trans String.toList_ofList
theorem lays_later : Tryz.prog.laysLater = false := by kernel_rfl
theorem bears_reflect : Tryz.prog.bearsReflect = false := by kernel_rfl
theorem door_fits : Tryz.prog.doorFits [] = true := by kernel_rfl
theorem strip_cut (R : List (List Char)) : stripLifts liftWords ("cut".toList :: R) = ([], "cut".toList :: R) := by kernel_rfl
theorem head_word : (behindMainWord (wordsSigns initSigns)).head? = some "cut".toList := by kernel_rfl
theorem mayEnter_of {P : Program} {R : List (List Char)} (hw : behindMainWord (wordsSigns P.initOrder.toList) = "cut".toList :: R) (hl : P.laysLater = false) (hr : P.bearsReflect = false) (hd : P.doorFits [] = true) : P.mayEnter = true := by
  unfold Program.mayEnter
  rw [hw]
  simp only []
  rw [strip_cut, hl, hr]
  simp only []
  rw [hd]
  have e : (("cut".toList :: R).head? == some "cut".toList) = true := by kernel_rfl
  rw [e]
  simp
theorem cons_of_head {ws : List (List Char)} {w : List Char} (h : ws.head? = some w) : ∃ R, ws = w :: R := by
  cases ws with
  | nil => cases h
  | cons a R => exact ⟨R, by rw [show a = w from Option.some.inj h]⟩
theorem pf_mayEnter : Tryz.prog.mayEnter = true := by
  obtain ⟨R, hR⟩ := cons_of_head head_word
  exact mayEnter_of (R := R) ((congrArg (fun l => behindMainWord (wordsSigns l)) init_list).trans hR) lays_later bears_reflect door_fits
end Go.Proofs.YtonbnmpleecegaaGreatDoor
