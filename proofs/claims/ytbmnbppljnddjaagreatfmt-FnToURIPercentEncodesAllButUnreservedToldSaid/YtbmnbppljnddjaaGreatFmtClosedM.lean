/- Closed facts of this program on the head of its build line. -/
import Derived.Test.YtbmnbppljnddjaaGreatFmtFrame
namespace Go.Proofs.YtbmnbppljnddjaaGreatFmt
def initSigns : List Char := List.map Char.ofNat [104, 97, 114, 110, 101, 115, 115, 32, 53, 97, 48, 97, 98, 50, 51, 54, 100, 53, 48, 52, 57, 50, 101, 101, 57, 97, 99, 99, 102, 100, 98, 52, 55, 100, 55, 52, 98, 54, 101, 97, 100, 100, 52, 49, 102, 48, 57, 99, 101, 100, 48, 102, 54, 98, 49, 97, 56, 49, 57, 50, 99, 100, 55, 98, 49, 56, 49, 53, 53, 53, 100, 99, 32, 99, 117, 116, 32, 97, 116, 32, 103, 105, 116, 104, 117, 98, 46, 99, 111, 109, 47, 105, 116, 99, 104, 121, 110, 121, 47, 103, 111, 106, 113, 47, 110, 48, 48, 49, 95, 54, 50, 46, 70, 110, 84, 111, 67, 83, 86, 81, 117, 111, 116, 101, 115, 69, 118, 101, 114, 121, 83, 116, 114, 105, 110, 103, 70, 105, 101, 108, 100, 32, 103, 105, 116, 104, 117, 98, 46, 99, 111, 109, 47, 105, 116, 99, 104, 121, 110, 121, 47, 103, 111, 106, 113, 47, 110, 48, 48, 49, 95, 54, 50, 46, 70, 110, 84, 111, 72, 84, 77, 76, 77, 97, 116, 99, 104, 101, 115, 69, 110, 116, 105, 116, 121, 84, 97, 98, 108, 101, 32, 103, 105, 116, 104, 117, 98, 46, 99, 111, 109, 47, 105, 116, 99, 104, 121, 110, 121, 47, 103, 111, 106, 113, 47, 110, 48, 48, 49, 95, 54, 50, 46, 70, 110, 84, 111, 72, 84, 77, 76, 73, 115, 83, 97, 102, 101, 65, 110, 100, 73, 110, 118, 101, 114, 116, 105, 98, 108, 101, 32, 103, 105, 116, 104, 117, 98, 46, 99, 111, 109, 47, 105, 116, 99, 104, 121, 110, 121, 47, 103, 111, 106, 113, 47, 110, 48, 48, 49, 95, 54, 50, 46, 70, 110, 84, 111, 85, 82, 73, 80, 101, 114, 99, 101, 110, 116, 69, 110, 99, 111, 100, 101, 115, 65, 108, 108, 66, 117, 116, 85, 110, 114, 101, 115, 101, 114, 118, 101, 100, 32, 103, 105, 116, 104, 117, 98, 46, 99, 111, 109, 47, 105, 116, 99, 104, 121, 110, 121, 47, 103, 111, 106, 113, 47, 110, 48, 48, 49, 95, 54, 50, 46, 70, 110, 84, 111, 67, 83, 86, 73, 110, 116, 115, 65, 114, 101, 66, 97, 114, 101, 68, 101, 99, 105, 109, 97, 108, 115, 32, 115, 116, 111, 112, 32, 102, 109, 116, 46, 83, 112, 114, 105, 110, 116, 102, 43, 99, 97, 108, 108, 115]
theorem init_lit : Tryz.prog.initOrder = String.ofList initSigns := by kernel_rfl
theorem init_list : Tryz.prog.initOrder.toList = initSigns := (congrArg String.toList init_lit).trans String.toList_ofList
theorem lays_later : Tryz.prog.laysLater = false := by kernel_rfl
theorem bears_reflect : Tryz.prog.bearsReflect = false := by kernel_rfl
theorem door_fits : Tryz.prog.doorFits [] = true := by kernel_rfl
theorem strip_cut (R : List (List Char)) : stripLifts liftWords ("cut".toList :: R) = ([], "cut".toList :: R) := by kernel_rfl
theorem head_word : (behindMainWord (wordsSigns initSigns)).head? = some "cut".toList := by kernel_rfl
theorem mayEnter_of {P : Program} {R : List (List Char)} (hw : behindMainWord (wordsSigns P.initOrder.toList) = "cut".toList :: R) (hl : P.laysLater = false) (hr : P.bearsReflect = false) (hd : P.doorFits [] = true) : P.mayEnter = true := by
  unfold Program.mayEnter
  rw [hw]
  simp only []
  rw [strip_cut, hl, hr]
  simp only []
  rw [hd]
  have e : (("cut".toList :: R).head? == some "cut".toList) = true := by kernel_rfl
  rw [e]
  simp
theorem cons_of_head {ws : List (List Char)} {w : List Char} (h : ws.head? = some w) : ∃ R, ws = w :: R := by
  cases ws with
  | nil => cases h
  | cons a R => exact ⟨R, by rw [show a = w from Option.some.inj h]⟩
theorem pf_mayEnter : Tryz.prog.mayEnter = true := by
  obtain ⟨R, hR⟩ := cons_of_head head_word
  exact mayEnter_of (R := R) ((congrArg (fun l => behindMainWord (wordsSigns l)) init_list).trans hR) lays_later bears_reflect door_fits
end Go.Proofs.YtbmnbppljnddjaaGreatFmt
