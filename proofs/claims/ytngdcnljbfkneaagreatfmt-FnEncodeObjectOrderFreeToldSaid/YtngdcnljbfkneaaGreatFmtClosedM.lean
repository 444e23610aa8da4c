/- Closed facts of this program on the head of its build line. -/
import Derived.Test.YtngdcnljbfkneaaGreatFmtFrameT
namespace Go.Proofs.YtngdcnljbfkneaaGreatFmt
def initSigns : List Char := List.map Char.ofNat [104, 97, 114, 110, 101, 115, 115, 32, 50, 101, 53, 55, 50, 97, 102, 49, 52, 53, 101, 97, 102, 48, 97, 52, 102, 55, 99, 55, 98, 101, 49, 49, 56, 98, 50, 56, 102, 101, 56, 57, 100, 55, 54, 52, 99, 50, 52, 98, 102, 97, 51, 54, 100, 57, 97, 56, 53, 100, 52, 101, 52, 54, 100, 100, 97, 57, 51, 53, 100, 52, 101, 54, 32, 99, 117, 116, 32, 97, 116, 32, 103, 105, 116, 104, 117, 98, 46, 99, 111, 109, 47, 105, 116, 99, 104, 121, 110, 121, 47, 103, 111, 106, 113, 47, 110, 48, 48, 49, 95, 54, 52, 46, 70, 110, 69, 110, 99, 111, 100, 101, 79, 98, 106, 101, 99, 116, 79, 114, 100, 101, 114, 70, 114, 101, 101, 32, 103, 105, 116, 104, 117, 98, 46, 99, 111, 109, 47, 105, 116, 99, 104, 121, 110, 121, 47, 103, 111, 106, 113, 47, 110, 48, 48, 49, 95, 54, 52, 46, 70, 110, 69, 110, 99, 111, 100, 101, 79, 98, 106, 101, 99, 116, 83, 112, 101, 99, 32, 115, 116, 111, 112, 32, 102, 109, 116, 46, 83, 112, 114, 105, 110, 116, 102, 43, 99, 97, 108, 108, 115]
theorem init_lit : Tryz.prog.initOrder = String.ofList initSigns := by kernel_rfl
theorem init_list : Tryz.prog.initOrder.toList = initSigns := (congrArg String.toList init_lit).trans String.toList_ofList
theorem lays_later : Tryz.prog.laysLater = false := by kernel_rfl
theorem bears_reflect : Tryz.prog.bearsReflect = false := by kernel_rfl
theorem door_fits : Tryz.prog.doorFits [] = true := by kernel_rfl
theorem strip_cut (R : List (List Char)) : stripLifts liftWords ("cut".toList :: R) = ([], "cut".toList :: R) := by kernel_rfl
theorem head_word : (behindMainWord (wordsSigns initSigns)).head? = some "cut".toList := by kernel_rfl
theorem mayEnter_of {P : Program} {R : List (List Char)} (hw : behindMainWord (wordsSigns P.initOrder.toList) = "cut".toList :: R) (hl : P.laysLater = false) (hr : P.bearsReflect = false) (hd : P.doorFits [] = true) : P.mayEnter = true := by
  unfold Program.mayEnter
  rw [hw]
  simp only []
  rw [strip_cut, hl, hr]
  simp only []
  rw [hd]
  have e : (("cut".toList :: R).head? == some "cut".toList) = true := by kernel_rfl
  rw [e]
  simp
theorem cons_of_head {ws : List (List Char)} {w : List Char} (h : ws.head? = some w) : ∃ R, ws = w :: R := by
  cases ws with
  | nil => cases h
  | cons a R => exact ⟨R, by rw [show a = w from Option.some.inj h]⟩
theorem pf_mayEnter : Tryz.prog.mayEnter = true := by
  obtain ⟨R, hR⟩ := cons_of_head head_word
  exact mayEnter_of (R := R) ((congrArg (fun l => behindMainWord (wordsSigns l)) init_list).trans hR) lays_later bears_reflect door_fits
end Go.Proofs.YtngdcnljbfkneaaGreatFmt
