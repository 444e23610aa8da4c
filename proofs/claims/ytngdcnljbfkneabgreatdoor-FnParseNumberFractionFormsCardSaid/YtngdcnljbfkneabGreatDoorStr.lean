/- Laws over any program: a byte of a string; a row of bytes that the call itself fills; float arithmetic where no function of the bits names the answer. -/
import Derived.WalkKit
import Derived.Lib.ItoaWalk
import Derived.Lib.ItoaMem
import Derived.Laws.FloatArith
import Derived.Laws.IdiomStrings
import Derived.Laws.NewFold
namespace Go.Str
open Go.Lib

theorem idx_str {P : Program} (t : TypeId) (ht : P.underlying t = some .string) (s : ByteArray) (k : IntKind) (z : Int) (i : Nat) (hz : z = (i : Int)) (hi : i < s.size) (w : World) :
    (Instr.index t (.string s) (.int k z)).run P w = .ok (.int .u8 ((s.data.toList.getD i 0).toNat : Int)) w := by
  subst hz
  rw [run_index_string w t s k _ ht, dif_pos ⟨by omega, by omega⟩]
  have e : ((i : Int)).toNat = i := by omega
  simp only [e]
  rw [getD_at s i hi]

/-- A byte as a cell. -/
def bc (b : UInt8) : Value := .int .u8 (b.toNat : Int)
theorem map_set (d : Array UInt8) (i : Nat) (x : UInt8) : (d.map bc).setIfInBounds i (bc x) = (d.setIfInBounds i x).map bc := by
  apply Array.ext
  · simp
  · intro j h1 h2
    by_cases c : i = j
    · subst c; simp
    · simp
theorem row_set {w : World} {g : Nat} {d : Array UInt8} {t : TypeId} (h : w.heap[g]? = some (.cells (d.map bc) t (0, 0))) (i : Nat) (x : UInt8) (v : Value) (hv : v = bc x) :
    (w.setCell ⟨g, i, none⟩ v).heap[g]? = some (.cells ((d.setIfInBounds i x).map bc) t (0, 0)) := by
  rw [heap_setCell_same w g i _ t v h, hv, map_set]
theorem row_get {w : World} {g : Nat} {d : Array UInt8} {t : TypeId} (h : w.heap[g]? = some (.cells (d.map bc) t (0, 0))) (i : Nat) (hi : i < d.size) : w.cell? ⟨g, i, none⟩ = some (bc (d[i]!)) := by
  rw [cell_of_row w g i _ t (0, 0) h, getElem!_pos d i hi]
  simp [hi]
/-- 'string(buf[i:])' of such a row. -/
theorem row_text {P : Program} (w : World) (g i n cap : Nat) (d : Array UInt8) (t src dst e : TypeId) (hs : P.underlying src = some (.slice e)) (he : P.underlying e = some (.int .u8)) (hd : P.underlying dst = some .string)
    (h : w.heap[g]? = some (.cells (d.map bc) t (0, 0))) (l : List UInt8) (hl : d.toList.drop i = l) (hn : n = l.length) :
    (convert src dst (.slice (some ⟨g, i, none⟩) n cap)).run P w = .ok (.string ⟨l.toArray⟩) w := by
  subst hn
  refine run_convert_bytes_back w src dst e ⟨g, i, none⟩ cap l hs he hd fun j hj => ?_
  have hsz : i + j < d.size := by
    have := congrArg List.length hl
    simp at this
    omega
  rw [add_plain, row_get h (i + j) hsz, getElem!_pos d _ hsz]
  unfold bc
  congr 4
  subst hl
  simp

/-! ### Floats -/
/-- The answer of an arithmetic operation that IEEE leaves invalid: some NaN, by the tape. -/
def nanAt (x y : Nat) (w : World) : Nat := (Question.nanBits .f64 x y).cut (w.tape w.drawn (.nanBits .f64 x y))
theorem run_float_none {P : Program} (w : World) (op : BinOp) (t : TypeId) (x y : Nat) (hop : op = .add ∨ op = .sub ∨ op = .mul ∨ op = .quo) (h : floatBits op .f64 x y = none) :
    (binOp op t (.float .f64 x) (.float .f64 y)).run P w = .ok (.float .f64 (nanAt x y w)) w.drew := by
  unfold floatBits at h
  rcases hop with rfl | rfl | rfl | rfl <;> simp only at h <;> simp [binOp, Op.floatArith, h, Question.forced, nanAt]
theorem nanAt_ge (x y : Nat) (w : World) : ∃ s r, nanAt x y w = s * 9223372036854775808 + r ∧ s < 2 ∧ 9218868437227405312 < r ∧ r < 9223372036854775808 := by
  unfold nanAt Question.cut
  generalize w.tape w.drawn (.nanBits .f64 x y) = t
  refine ⟨t % 2, 9218868437227405312 + 1 + t / 2 % (2 ^ 52 - 1), ?_, by omega, by omega, ?_⟩
  · simp; omega
  · have : t / 2 % (2 ^ 52 - 1) < 2 ^ 52 - 1 := Nat.mod_lt _ (by decide)
    omega
end Go.Str
