/- Contracts: toInt, toFloat and math.Floor at what a row of fields holds; arrayToTime over such a row. -/
import Derived.Test.YtonbnmpleecegaaGreatDoorDateA
import Derived.Test.YtonbnmpleecegaaGreatDoorIntC
import Derived.Test.YtonbnmpleecegaaGreatDoorFloatVal
import Derived.OneCell
namespace Go.Proofs.YtonbnmpleecegaaGreatDoor
open Go.RowKit Go.Deep

theorem toIntegral_num (x : Nat) (s : Bool) (m : Nat) (p : Int) (h : FloatKind.f64.decode x = .number s m p) :
    Extern.MathFloor.toIntegral "math.archFloor" .down #[.float .f64 x] = pure (.float .f64 (FloatKind.f64.encode ((Ieee.Datum.number s m p).integral .down))) := by
  conv => lhs; whnf
  rw [h]
theorem arch_run (x : Nat) (w : World) : (callFunc 40 #[.float .f64 x]).run Tryz.prog w = (Extern.MathFloor.toIntegral "math.archFloor" .down #[.float .f64 x] >>= fun v => pure (Next.value v)).run Tryz.prog w := by kernel_rfl
theorem arch_floor (x : Nat) (s : Bool) (m : Nat) (p : Int) (h : Ieee.double.read x = .number s m p) (w : World) :
    (callFunc 40 #[.float .f64 x]).run Tryz.prog w = .ok (.value (.float .f64 (Ieee.double.write ((Ieee.Datum.number s m p).integral .down)))) w := by
  rw [arch_run, toIntegral_num x s m p h]
  rfl
theorem floor_any (x : Nat) (s : Bool) (m : Nat) (p : Int) (h : Ieee.double.read x = .number s m p) (w : World) :
    Calls Tryz.prog 32 #[.float .f64 x] w fun e w' => e = .returned (.float .f64 (Ieee.double.write ((Ieee.Datum.number s m p).integral .down))) ∧ w = w' := by
  have hk := arch_floor x s m p h
  generalize Ieee.double.write ((Ieee.Datum.number s m p).integral .down) = fl at hk ⊢
  clear h
  go_enter Tryz.func32, Tryz.ntmps32
  go_wp2
  go_ret
  exact ⟨rfl, rfl⟩
theorem toFloat_f (v : Nat) (w : World) : Calls Tryz.prog 31 #[.iface 25 (.float .f64 v)] w fun e w' => e = .returned (.tuple #[.float .f64 v, .bool true]) ∧ w = w' := by
  go_enter Tryz.func31, Tryz.ntmps31
  go_wp2
  go_ret2
  exact ⟨rfl, rfl⟩
theorem toFloat_i (n : Int) (w : World) : Calls Tryz.prog 31 #[.iface 3 (.int .i64 n)] w fun e w' => e = .returned (.tuple #[.float .f64 (floatOfInt .f64 n), .bool true]) ∧ w = w' := by
  go_enter Tryz.func31, Tryz.ntmps31
  go_wp2
  go_ret2
  exact ⟨rfl, rfl⟩
theorem toFloat_s (v : Value) (w : World) : Calls Tryz.prog 31 #[.iface 9 v] w fun e w' => e = .returned (.tuple #[.float .f64 0, .bool false]) ∧ w = w' := by
  go_enter Tryz.func31, Tryz.ntmps31
  go_wp2
  go_ret2
  exact ⟨rfl, rfl⟩
theorem toInt_i (n : Int) (w : World) : Calls Tryz.prog 33 #[.iface 3 (.int .i64 n)] w fun e w' => e = .returned (.tuple #[.int .i64 n, .bool true]) ∧ w = w' := by
  go_enter Tryz.func33, Tryz.ntmps33
  go_wp2
  go_ret2
  exact ⟨rfl, rfl⟩
theorem toInt_s (v : Value) (w : World) : Calls Tryz.prog 33 #[.iface 9 v] w fun e w' => e = .returned (.tuple #[.int .i64 0, .bool false]) ∧ w = w' := by
  go_enter Tryz.func33, Tryz.ntmps33
  go_wp2
  go_ret2
  exact ⟨rfl, rfl⟩
/-- What stands in the sixth place: the whole seconds S and the nanoseconds N that the code takes from it. -/
def SecOk (v : Value) (S : Int) (N : Nat) : Prop :=
  ∃ x fl r1 r2, (∀ w : World, Calls Tryz.prog 31 #[v] w fun e w' => e = .returned (.tuple #[.float .f64 x, .bool true]) ∧ w = w') ∧ (∀ w : World, Calls Tryz.prog 32 #[.float .f64 x] w fun e w' => e = .returned (.float .f64 fl) ∧ w = w') ∧
    floatToIntVal .f64 x .i64 = some S ∧ floatBits .sub .f64 x fl = some r1 ∧ floatBits .mul .f64 r1 4741671816366391296 = some r2 ∧ floatToIntVal .f64 r2 .i64 = some (N : Int)
def vl (Z : Nat → Int) (k j : Nat) : Int := if j < k then Z j else 0
theorem unixZ_name (a b c d e f : Int) : ∃ U, unixZ a b c d e f = U := ⟨_, rfl⟩
def nsl (N k : Nat) : Nat := if 5 < k then N else 0
theorem vl_same (Z : Nat → Int) (k : Nat) : vl Z (k + 1) k = Z k := if_pos (Nat.lt_succ_self k)
theorem vl_other (Z : Nat → Int) (k j : Nat) (h : j ≠ k) : vl Z (k + 1) j = vl Z k j := by
  unfold vl
  by_cases c : j < k
  · rw [if_pos c, if_pos (by omega)]
  · rw [if_neg c, if_neg (by omega)]
/-- The eight variables behind k rounds, the row of their addresses, the result's place and the instant's. -/
structure Vars (Z : Nat → Int) (k : Nat) (B : Nat) (W wr : World) : Prop where
  below : Below B W wr
  res : wr.heap[B]? = some (.cells #[.int .u64 0, .int .i64 0, .pointer none] 42 (0, 0))
  tim : wr.heap[B + 1]? = some (.cells #[.int .u64 0, .int .i64 0, .pointer none] 42 (0, 0))
  var : ∀ j, j < 8 → wr.heap[B + 2 + j]? = some (.cells #[.int .i64 (vl Z k j)] 3 (0, 0))
  ptr : ∀ j, j < 8 → wr.cell? ⟨B + 10, j, none⟩ = some (.pointer (some ⟨B + 2 + j, 0, none⟩))
  size : B + 10 < wr.heap.size
theorem Vars.store {Z : Nat → Int} {k B : Nat} {W wr : World} (h : Vars Z k B W wr) (hk : k < 8) (x : Int) (hx : x = Z k) : Vars Z (k + 1) B W (wr.setCell ⟨B + 2 + k, 0, none⟩ (.int .i64 x)) := by
  subst hx
  refine ⟨h.below.setCell (by simp; omega) _, ?_, ?_, fun j hj => ?_, fun j hj => ?_, by simpa using h.size⟩
  · rw [← h.res]; exact heap_setCell_other _ _ _ _ (by simp; omega)
  · rw [← h.tim]; exact heap_setCell_other _ _ _ _ (by simp; omega)
  · by_cases e : j = k
    · subst e
      rw [vl_same]
      exact one_setCell (h.var j hj)
    · rw [vl_other Z k j e, ← h.var j hj]
      exact heap_setCell_other _ _ _ _ (by simp; omega)
  · exact (World.cell?_setCell_other wr ⟨B + 2 + k, 0, none⟩ ⟨B + 10, j, none⟩ _ (by simp)).trans (h.ptr j hj)
def timeObj : Obj := .cells #[.int .u64 0, .int .i64 0, .pointer none] 42
def intObj : Obj := .cells #[.int .i64 0] 3
def ptrObj (B : Nat) : Obj := .cells #[.pointer (some ⟨B + 2, 0, none⟩), .pointer (some ⟨B + 3, 0, none⟩), .pointer (some ⟨B + 4, 0, none⟩), .pointer (some ⟨B + 5, 0, none⟩), .pointer (some ⟨B + 6, 0, none⟩), .pointer (some ⟨B + 7, 0, none⟩), .pointer (some ⟨B + 8, 0, none⟩), .pointer (some ⟨B + 9, 0, none⟩)] 55
theorem allocs_old : ∀ (l : List Obj) (w : World) (k : Nat), k < w.heap.size → (l.foldl World.alloc w).heap[k]? = w.heap[k]?
  | [], _, _, _ => rfl
  | o :: l, w, k, h => (allocs_old l (w.alloc o) k (by rw [Go.Deep.nblk_alloc]; omega)).trans (Go.Deep.blk_alloc_lt _ _ _ h)
theorem allocs_get : ∀ (l : List Obj) (w : World) (i : Nat), i < l.length → (l.foldl World.alloc w).heap[w.heap.size + i]? = l[i]?
  | [], _, _, h => absurd h (Nat.not_lt_zero _)
  | o :: l, w, 0, _ => (allocs_old l (w.alloc o) w.heap.size (by rw [Go.Deep.nblk_alloc]; omega)).trans (heap_alloc_new w o)
  | o :: l, w, i + 1, h => by
    have := allocs_get l (w.alloc o) i (by simpa using h)
    rw [Go.Deep.nblk_alloc, Nat.add_assoc, Nat.add_comm 1 i] at this
    exact this
theorem vars_start (w : World) (Z : Nat → Int) : Vars Z 0 w.heap.size w (((((((((((w.alloc timeObj).alloc timeObj).alloc intObj).alloc intObj).alloc intObj).alloc intObj).alloc intObj).alloc intObj).alloc intObj).alloc intObj).alloc (ptrObj w.heap.size)) := by
  have g := fun i (h : i < 11) => allocs_get [timeObj, timeObj, intObj, intObj, intObj, intObj, intObj, intObj, intObj, intObj, ptrObj w.heap.size] w i h
  refine ⟨?_, g 0 (by decide), g 1 (by decide), fun j hj => ?_, fun j hj => ?_, ?_⟩
  · unfold timeObj intObj ptrObj
    go_grown
  · have : j = 0 ∨ j = 1 ∨ j = 2 ∨ j = 3 ∨ j = 4 ∨ j = 5 ∨ j = 6 ∨ j = 7 := by omega
    rcases this with rfl | rfl | rfl | rfl | rfl | rfl | rfl | rfl
    · exact g 2 (by decide)
    · exact g 3 (by decide)
    · exact g 4 (by decide)
    · exact g 5 (by decide)
    · exact g 6 (by decide)
    · exact g 7 (by decide)
    · exact g 8 (by decide)
    · exact g 9 (by decide)
  · have : j = 0 ∨ j = 1 ∨ j = 2 ∨ j = 3 ∨ j = 4 ∨ j = 5 ∨ j = 6 ∨ j = 7 := by omega
    have h := fun i => cell_of_row _ (w.heap.size + 10) i _ _ (0, 0) (g 10 (by decide))
    rcases this with rfl | rfl | rfl | rfl | rfl | rfl | rfl | rfl <;> exact (h _).trans rfl
  · simp only [Go.Deep.nblk_alloc]; omega
end Go.Proofs.YtonbnmpleecegaaGreatDoor
