/- Slices of texts as arguments. -/
import Derived.Test.YtngdcnljbfkneaaGreatFmtProg
import Derived.WalkKit
import Derived.KernelRfl
import Derived.ProofKit
import Derived.ChangeSlices
import Derived.Test.YtngdcnljbfkneaaGreatFmtCells
import Derived.SliceStrings
namespace Go.Proofs.YtngdcnljbfkneaaGreatFmt
open Go.ChangeShapes Go.WideShapes Go.ChangeAt Go.RowKit Go.WideMaps Go.WideElems
theorem cells_string : Tryz.prog.cellsOf 9 = 1 := by kernel_rfl
def StrArg (w : World) (v : Value) (ss : List ByteArray) : Prop :=
  (v = .slice none 0 0 ∧ ss = []) ∨ (∃ a cap, v = .slice (some a) 0 cap ∧ ss = []) ∨
  ∃ b off cap, v = .slice (some ⟨b, off, none⟩) ss.length cap ∧ 0 < ss.length ∧ b < w.heap.size ∧ ∀ i, i < ss.length → w.cell? ⟨b, off + i, none⟩ = some (.string (ss.getD i ByteArray.empty))
set_option maxRecDepth 100000 in
theorem str_arg {H : Type} {enc : TypeId × Value → H} {W : World} {base : Nat} {v : Value} {d : DataW H} {p : List MemPlace}
    (hv : Value.okWide Tryz.prog W .any base 22 v) (h : DataW.Trod enc Tryz.prog W 0 (fun _ => true) true 22 v d p) (hlt : ∀ x ∈ p, x.block < W.heap.size) :
    ∃ ss : List ByteArray, StrArg W v ss ∧ ∀ s ∈ ss, s.size ≤ maxLen := by
  obtain ⟨a0, len, cap, rfl⟩ := okWide_slice Tryz.underlying22 hv
  obtain ⟨fuel, hf⟩ := h
  rcases open_strings Tryz.underlying22 Tryz.underlying9 cells_string hf with ⟨hcs, hx⟩ | ⟨a, len', cap', zs, hcs, _, hl, hm, hz, hx, hcell, hwz⟩
  · simp [Value.cells] at hcs
    obtain ⟨rfl, rfl, rfl⟩ := hcs
    exact ⟨[], Or.inl ⟨rfl, rfl⟩, fun n hn => by cases hn⟩
  · simp [Value.cells] at hcs
    obtain ⟨rfl, rfl, rfl⟩ := hcs
    simp only [Prod.mk.injEq] at hx
    obtain ⟨rfl, rfl⟩ := hx
    simp only [if_true] at hz
    have hlen : (zs.take len).length = len := by rw [List.length_take]; omega
    refine ⟨zs.take len, Or.inr ?_, fun n hn => hwz n (List.mem_of_mem_take hn)⟩
    by_cases h0 : len = 0
    · subst h0
      exact Or.inl ⟨a, cap, rfl, by simp⟩
    · obtain ⟨b, off, spot⟩ := a
      have hspot : spot = none := by simpa [Addr.add] using World.cell?_spot (hcell 0 (by omega))
      subst hspot
      have hbW : b < W.heap.size := hlt (.cell b off) (MemPlace.mem_row.2 ⟨0, by omega, by simp⟩)
      refine Or.inr ⟨b, off, cap, by rw [hlen], by omega, hbW, fun i hi => ?_⟩
      rw [hlen] at hi
      have := hcell i (by omega)
      rw [add_plain] at this
      rw [this]
      congr 2
      simp [List.getD_eq_getElem?_getD, hi]
def StrF (ss : List ByteArray) : Nat → Value := fun i => .string (ss.getD i ByteArray.empty)
theorem at_strArg {w : World} {v : Value} {ss : List ByteArray} (h : StrArg w v ss) : Cells.At w v (StrF ss) ss.length := by
  rcases h with ⟨rfl, rfl⟩ | ⟨a, cap, rfl, rfl⟩ | ⟨b, off, cap, rfl, h0, hb, hc⟩
  · exact ⟨none, 0, rfl, fun h => absurd h (by simp)⟩
  · exact ⟨some a, cap, rfl, fun h => absurd h (by simp)⟩
  · exact ⟨_, cap, rfl, fun _ => ⟨b, off, rfl, hb, hc⟩⟩
set_option maxRecDepth 100000 in
theorem strs_arg {H : Type} {enc : TypeId × Value → H} {W : World} {base : Nat} {v : Value} {d : DataW H} {p : List MemPlace}
    (hv : Value.okWide Tryz.prog W .any base 22 v) (h : DataW.Trod enc Tryz.prog W 0 (fun _ => true) true 22 v d p) (hlt : ∀ x ∈ p, x.block < W.heap.size) :
    ∃ ss : List ByteArray, Cells.At W v (StrF ss) ss.length ∧ ∀ s ∈ ss, s.size ≤ maxLen := by
  obtain ⟨ss, h1, h2⟩ := str_arg hv h hlt
  exact ⟨ss, at_strArg h1, h2⟩
end Go.Proofs.YtngdcnljbfkneaaGreatFmt
