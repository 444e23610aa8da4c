/- Rows of ints: their cells, their bounds. -/
import Derived.Test.YtonbnmpleecegabGreatDoorCells
import Derived.Test.YtonbnmpleecegabGreatDoorArgs
namespace Go.Proofs.YtonbnmpleecegabGreatDoor
open Go.RowKit Go.Deep

theorem info_anyI : (Tryz.prog.info? 20).map (fun i => (i.zero, i.size, i.bytes)) = some (some .nilIface, 1, 16) := by kernel_rfl
theorem info_intI : (Tryz.prog.info? 3).map (fun i => (i.zero, i.size, i.bytes)) = some (some (.int .i64 0), 1, 8) := by kernel_rfl
def IntF (zs : List Int) : Nat → Value := fun i => .int .i64 (zs.getD i 0)
theorem at_intArg {w : World} {v : Value} {zs : List Int} (h : IntArg w v zs) : Cells.At w v (IntF zs) zs.length := by
  rcases h with ⟨rfl, rfl⟩ | ⟨a, cap, rfl, rfl⟩ | ⟨b, off, cap, rfl, h0, hb, hc⟩
  · exact ⟨_, _, rfl, fun h => absurd h (by simp)⟩
  · exact ⟨_, _, rfl, fun h => absurd h (by simp)⟩
  · exact ⟨_, _, rfl, fun _ => ⟨b, off, rfl, hb, hc⟩⟩
def In64 (n : Int) : Prop := -9223372036854775808 ≤ n ∧ n ≤ 9223372036854775807
theorem in64_wf {n : Int} (h : (Lit.int .i64 n).wf = true) : In64 n := by
  have : IntKind.i64.min ≤ n ∧ n ≤ IntKind.i64.max := by simpa [Lit.wf] using h
  exact ⟨this.1, this.2⟩
theorem getD_in64 {zs : List Int} (h : ∀ z ∈ zs, (Lit.int .i64 z).wf = true) (k : Nat) : In64 (zs.getD k 0) := by
  rw [List.getD_eq_getElem?_getD]
  cases hk : zs[k]? with
  | none => exact ⟨by decide, by decide⟩
  | some x => exact in64_wf (h x (List.mem_of_getElem? hk))
end Go.Proofs.YtonbnmpleecegabGreatDoor
