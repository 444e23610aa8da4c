/- The walk of FnParseNumberFractionForms. -/
import Derived.Test.YtngdcnljbfkneabGreatDoorPnF0
import Derived.Test.YtngdcnljbfkneabGreatDoorPnF1
import Derived.Test.YtngdcnljbfkneabGreatDoorPnF2
namespace Go.Proofs.YtngdcnljbfkneabGreatDoor
open Go.RowKit Go.Dec Go.Lib Go.Deep

set_option maxRecDepth 100000 in
set_option maxHeartbeats 4000000 in
theorem walk_FnParseNumberFractionForms (n : Int) (_wn : (Lit.int .i64 n).wf = true) (k : Int) (wk : (Lit.int .u8 k).wf = true) (W : World) (hX : LawX W) :
    Calls Tryz.prog 3 #[.int .i64 n, .int .u8 k] W fun e w' => e = .returned (.bool true) ∧ Below W.heap.size W w' := by
  have hk : 0 ≤ k ∧ k ≤ 255 := by
    have : IntKind.u8.min ≤ k ∧ k ≤ IntKind.u8.max := by simpa [Lit.wf] using wk
    exact ⟨this.1, this.2⟩
  by_cases c1 : n < -9007199254740992
  · clear wk
    go_enter Tryz.func3, Tryz.ntmps3
    go_wp2
    go_ret
    exact ⟨rfl, by go_grown⟩
  by_cases c2 : 9007199254740992 < n
  · clear wk
    go_enter Tryz.func3, Tryz.ntmps3
    go_wp2
    go_ret
    exact ⟨rfl, by go_grown⟩
  have hm := Int.tmod_eq_emod_of_nonneg (b := 5) hk.1
  rcases (show k % 5 = 0 ∨ k % 5 = 1 ∨ k % 5 = 2 ∨ k % 5 = 3 ∨ k % 5 = 4 by omega) with h | h | h | h | h
  · exact form0 n k (hm.trans h) (by omega) (by omega) W hX
  · exact form1 n k (hm.trans h) (by omega) (by omega) W hX
  · exact form2 n k (hm.trans h) (by omega) (by omega) W hX
  · exact form3 n k (hm.trans h) (by omega) (by omega) W hX
  · rcases Int.lt_trichotomy n 0 with c | c | c
    · exact form4n n k (hm.trans h) c (by omega) (by omega) W hX
    · exact form4z n k (hm.trans h) c (by omega) (by omega) W hX
    · exact form4p n k (hm.trans h) c (by omega) (by omega) W hX
end Go.Proofs.YtngdcnljbfkneabGreatDoor
