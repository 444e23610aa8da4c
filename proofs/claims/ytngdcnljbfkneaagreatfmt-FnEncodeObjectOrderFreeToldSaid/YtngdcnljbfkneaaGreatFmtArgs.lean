/- Slices of ints and of strings that came in: what they hold. -/
import Derived.Test.YtngdcnljbfkneaaGreatFmtProg
import Derived.WalkKit
import Derived.KernelRfl
import Derived.ProofKit
import Derived.ChangeSlices
import Derived.SliceStrings
namespace Go.Proofs.YtngdcnljbfkneaaGreatFmt
open Go.ChangeShapes Go.WideShapes Go.ChangeAt Go.RowKit Go.WideMaps Go.WideElems

theorem cells_int : Tryz.prog.cellsOf 3 = 1 := by kernel_rfl
/-- The slice v holds the ints zs. -/
def IntArg (w : World) (v : Value) (zs : List Int) : Prop :=
  (v = .slice none 0 0 ∧ zs = []) ∨ (∃ a cap, v = .slice (some a) 0 cap ∧ zs = []) ∨
  ∃ b off cap, v = .slice (some ⟨b, off, none⟩) zs.length cap ∧ 0 < zs.length ∧ b < w.heap.size ∧ ∀ i, i < zs.length → w.cell? ⟨b, off + i, none⟩ = some (.int .i64 (zs.getD i 0))
set_option maxRecDepth 100000 in
theorem int_arg {H : Type} {enc : TypeId × Value → H} {W : World} {base : Nat} {v : Value} {d : DataW H} {p : List MemPlace}
    (hv : Value.okWide Tryz.prog W .any base 23 v) (h : DataW.Trod enc Tryz.prog W 0 (fun _ => true) true 23 v d p) (hlt : ∀ x ∈ p, x.block < W.heap.size) :
    ∃ zs : List Int, IntArg W v zs ∧ ∀ n ∈ zs, (Lit.int .i64 n).wf = true := by
  obtain ⟨a0, len, cap, rfl⟩ := okWide_slice Tryz.underlying23 hv
  obtain ⟨fuel, hf⟩ := h
  rcases open_ints Tryz.underlying23 Tryz.underlying3 cells_int hf with ⟨hcs, hx⟩ | ⟨a, len', cap', zs, hcs, _, hl, hm, hz, hx, hcell, hwz⟩
  · simp [Value.cells] at hcs
    obtain ⟨rfl, rfl, rfl⟩ := hcs
    exact ⟨[], Or.inl ⟨rfl, rfl⟩, fun n hn => by cases hn⟩
  · simp [Value.cells] at hcs
    obtain ⟨rfl, rfl, rfl⟩ := hcs
    simp only [Prod.mk.injEq] at hx
    obtain ⟨rfl, rfl⟩ := hx
    simp only [if_true] at hz
    have hlen : (zs.take len).length = len := by rw [List.length_take]; omega
    refine ⟨zs.take len, Or.inr ?_, fun n hn => hwz n (List.mem_of_mem_take hn)⟩
    by_cases h0 : len = 0
    · subst h0
      exact Or.inl ⟨a, cap, rfl, by simp⟩
    · obtain ⟨b, off, spot⟩ := a
      have hspot : spot = none := by simpa [Addr.add] using World.cell?_spot (hcell 0 (by omega))
      subst hspot
      have hbW : b < W.heap.size := hlt (.cell b off) (MemPlace.mem_row.2 ⟨0, by omega, by simp⟩)
      refine Or.inr ⟨b, off, cap, by rw [hlen], by omega, hbW, fun i hi => ?_⟩
      rw [hlen] at hi
      have := hcell i (by omega)
      rw [add_plain] at this
      rw [this]
      congr 2
      simp [List.getD_eq_getElem?_getD, hi]
end Go.Proofs.YtngdcnljbfkneaaGreatFmt
