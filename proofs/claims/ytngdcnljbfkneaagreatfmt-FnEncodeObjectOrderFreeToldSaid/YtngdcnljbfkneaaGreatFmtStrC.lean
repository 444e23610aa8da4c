/- Rows of texts: their cells, the quoted texts joined. -/
import Derived.Test.YtngdcnljbfkneaaGreatFmtCells
import Derived.Test.YtngdcnljbfkneaaGreatFmtQuo
import Derived.Test.YtngdcnljbfkneaaGreatFmtEsc
import Derived.Test.YtngdcnljbfkneaaGreatFmtStrArg
namespace Go.Proofs.YtngdcnljbfkneaaGreatFmt
open Go.RowKit Go.Deep

theorem info_anyI : (Tryz.prog.info? 20).map (fun i => (i.zero, i.size, i.bytes)) = some (some .nilIface, 1, 16) := by kernel_rfl
theorem info_strI : (Tryz.prog.info? 9).map (fun i => (i.zero, i.size, i.bytes)) = some (some (.string ByteArray.empty), 1, 16) := by kernel_rfl
def szAt (ss : List ByteArray) (j : Nat) : Nat := (ss.getD j ByteArray.empty).size
def Sizes (ss : List ByteArray) : Prop := ∀ j, (ss.getD j ByteArray.empty).size ≤ 1048576
def TextCells (ss : List ByteArray) (n : Nat) (a : Option Addr) (w : World) : Prop :=
  0 < n → ∃ b off, a = some ⟨b, off, none⟩ ∧ b < w.heap.size ∧ ∀ i, i < n → w.cell? ⟨b, off + i, none⟩ = some (.string (ss.getD i ByteArray.empty))
def qt (s : ByteArray) : List UInt8 := Quo.quote s.data.toList
theorem qt_len {s : ByteArray} (h : s.size ≤ 1048576) : (qt s).length ≤ 6291458 := by
  have := Quo.quote_len s.data.toList
  have e : s.data.toList.length = s.size := rfl
  unfold qt
  omega
theorem getD_mapQ (zs : List ByteArray) (k : Nat) (h : k < zs.length) : (zs.map qt).getD k [] = qt (zs.getD k ByteArray.empty) := by
  rw [List.getD_eq_getElem?_getD, List.getD_eq_getElem?_getD, List.getElem?_map, List.getElem?_eq_getElem h]; rfl
theorem glue_lenQ (zs : List ByteArray) (hz : Sizes zs) : ∀ k, k ≤ zs.length → (Esc.glue (zs.map qt) [44] k).length ≤ 6291459 * k
  | 0, _ => Nat.le_refl _
  | k + 1, h => by
    have h1 := glue_lenQ zs hz k (by omega)
    have h2 := qt_len (hz k)
    show (Esc.glue (zs.map qt) [44] k ++ ((if k = 0 then [] else [44]) ++ (zs.map qt).getD k [])).length ≤ 6291459 * (k + 1)
    rw [List.length_append, List.length_append, getD_mapQ zs k (by omega)]
    have h3 : (if k = 0 then ([] : List UInt8) else [44]).length ≤ 1 := by split <;> decide
    omega
end Go.Proofs.YtngdcnljbfkneaaGreatFmt
