/- Rows of ints: their cells, their decimal texts, the texts joined by commas. -/
import Derived.Test.YtngdcnljbfkneaaGreatFmtEncA
import Derived.Test.YtngdcnljbfkneaaGreatFmtEsc
import Derived.Test.YtngdcnljbfkneaaGreatFmtCells
import Derived.Test.YtngdcnljbfkneaaGreatFmtArgs
import Derived.Test.YtngdcnljbfkneaaGreatFmtDec
import Derived.Test.YtngdcnljbfkneaaGreatFmtStrC
namespace Go.Proofs.YtngdcnljbfkneaaGreatFmt
open Go.RowKit Go.Deep

theorem info_intI : (Tryz.prog.info? 3).map (fun i => (i.zero, i.size, i.bytes)) = some (some (.int .i64 0), 1, 8) := by kernel_rfl
def IntF (zs : List Int) : Nat → Value := fun i => .int .i64 (zs.getD i 0)
theorem at_intArg {w : World} {v : Value} {zs : List Int} (h : IntArg w v zs) : Cells.At w v (IntF zs) zs.length := by
  rcases h with ⟨rfl, rfl⟩ | ⟨a, cap, rfl, rfl⟩ | ⟨b, off, cap, rfl, h0, hb, hc⟩
  · exact ⟨_, _, rfl, fun h => absurd h (by simp)⟩
  · exact ⟨_, _, rfl, fun h => absurd h (by simp)⟩
  · exact ⟨_, _, rfl, fun _ => ⟨b, off, rfl, hb, hc⟩⟩
def In64 (n : Int) : Prop := -9223372036854775808 ≤ n ∧ n ≤ 9223372036854775807
theorem in64_wf {n : Int} (h : (Lit.int .i64 n).wf = true) : In64 n := by
  have : IntKind.i64.min ≤ n ∧ n ≤ IntKind.i64.max := by simpa [Lit.wf] using h
  exact ⟨this.1, this.2⟩
theorem getD_in64 {zs : List Int} (h : ∀ z ∈ zs, (Lit.int .i64 z).wf = true) (k : Nat) : In64 (zs.getD k 0) := by
  rw [List.getD_eq_getElem?_getD]
  cases hk : zs[k]? with
  | none => exact ⟨by decide, by decide⟩
  | some x => exact in64_wf (h x (List.mem_of_getElem? hk))
theorem itoa_len {n : Int} (h : In64 n) : (Lib.itoa n).length ≤ 21 := by
  obtain ⟨h0, h1⟩ := h
  unfold Lib.itoa
  split
  · have := dec_len n.natAbs (by omega); simp; omega
  · have := dec_len n.toNat (by omega); omega
theorem itoa_ne_null (n : Int) : Lib.itoa n ≠ [110, 117, 108, 108] := by
  unfold Lib.itoa
  split
  · intro h; simp at h
  · intro h
    have h1 := Dec.dec_get n.toNat 0 (Lib.nDigits_pos _)
    rw [h] at h1
    have h2 : Lib.dg n.toNat (Lib.nDigits n.toNat - 1 - 0) = 110 := by simpa using h1.symm
    have h3 := Dec.dg_nat n.toNat (Lib.nDigits n.toNat - 1 - 0)
    rw [h2] at h3
    have h4 : (110 : UInt8).toNat = 110 := by decide
    omega
theorem getD_mapI (zs : List Int) (k : Nat) (h : k < zs.length) : (zs.map Lib.itoa).getD k [] = Lib.itoa (zs.getD k 0) := by
  rw [List.getD_eq_getElem?_getD, List.getD_eq_getElem?_getD, List.getElem?_map, List.getElem?_eq_getElem h]
  rfl
theorem glue_lenI (zs : List Int) (hz : ∀ z ∈ zs, (Lit.int .i64 z).wf = true) : ∀ k, k ≤ zs.length → (Esc.glue (zs.map Lib.itoa) [44] k).length ≤ 22 * k
  | 0, _ => Nat.le_refl _
  | k + 1, h => by
    have h1 := glue_lenI zs hz k (by omega)
    have h2 := itoa_len (getD_in64 hz k)
    show (Esc.glue (zs.map Lib.itoa) [44] k ++ ((if k = 0 then [] else [44]) ++ (zs.map Lib.itoa).getD k [])).length ≤ 22 * (k + 1)
    rw [List.length_append, List.length_append, getD_mapI zs k (by omega)]
    have h3 : (if k = 0 then ([] : List UInt8) else [44]).length ≤ 1 := by split <;> decide
    omega
end Go.Proofs.YtngdcnljbfkneaaGreatFmt
