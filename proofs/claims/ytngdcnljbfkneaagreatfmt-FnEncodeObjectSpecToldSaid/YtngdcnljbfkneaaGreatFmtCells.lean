/- Rows of one-cell values, whatever they are: a slice whose cells are known, a new row that is filled from the front. -/
import Derived.WalkKit
import Derived.Below
import Derived.Deep.OwnRows
import Derived.WalkSmall
import Derived.WalkSpells
namespace Go.Cells
open Go.RowKit Go.Deep

/-- A slice value of n elements, element i holding f i: where n is not 0 its cells are known. -/
def At (w : World) (v : Value) (f : Nat → Value) (n : Nat) : Prop :=
  ∃ a cap, v = .slice a n cap ∧ (0 < n → ∃ b off, a = some ⟨b, off, none⟩ ∧ b < w.heap.size ∧ ∀ i, i < n → w.cell? ⟨b, off + i, none⟩ = some (f i))
theorem At.later {w w' : World} {v : Value} {f : Nat → Value} {n : Nat} (h : At w v f n) (hb : Below w.heap.size w w') : At w' v f n := by
  obtain ⟨a, cap, rfl, hc⟩ := h
  refine ⟨a, cap, rfl, fun h0 => ?_⟩
  obtain ⟨b, off, rfl, hlt, hcc⟩ := hc h0
  exact ⟨b, off, rfl, Nat.lt_of_lt_of_le hlt hb.size, fun i hi => (hb.cell (p := ⟨b, off + i, none⟩) hlt).trans (hcc i hi)⟩
/-- The first k places hold f, the others z0. -/
def fill (f : Nat → Value) (z0 : Value) (k : Nat) : Nat → Value := fun j => if j < k then f j else z0
theorem fill_set {w : World} {B : Nat} {T : TypeId} {n k : Nat} {f : Nat → Value} {z0 : Value} (h : w.rowIs B T n (fill f z0 k)) (v : Value) (hv : v = f k) :
    (w.setCell ⟨B, k, none⟩ v).rowIs B T n (fill f z0 (k + 1)) := by
  refine (h.set k v).congr fun j _ => ?_
  unfold fill
  by_cases c : j = k
  · subst c
    rw [if_pos rfl, if_pos (by omega), hv]
  · rw [if_neg c]
    by_cases c2 : j < k
    · rw [if_pos c2, if_pos (by omega)]
    · rw [if_neg c2, if_neg (by omega)]
theorem fill_start {w : World} {B : Nat} {T : TypeId} {n : Nat} {f : Nat → Value} {z0 : Value} (h : w.rowIs B T n (fun _ => z0)) : w.rowIs B T n (fill f z0 0) :=
  h.congr fun j _ => by unfold fill; rw [if_neg (Nat.not_lt_zero _)]
theorem fill_cell {w : World} {B : Nat} {T : TypeId} {n k : Nat} {f : Nat → Value} {z0 : Value} (h : w.rowIs B T n (fill f z0 k)) {i : Nat} (hi : i < n) (hk : i < k) : w.cell? ⟨B, i, none⟩ = some (f i) := by
  have := h.cell hi
  unfold fill at this
  rwa [if_pos hk] at this
theorem fill_old {w : World} {B : Nat} {T : TypeId} {n k : Nat} {f : Nat → Value} {z0 : Value} (h : w.rowIs B T n (fill f z0 k)) {i : Nat} (hi : i < n) (hk : ¬ i < k) : w.cell? ⟨B, i, none⟩ = some z0 := by
  have := h.cell hi
  unfold fill at this
  rwa [if_neg hk] at this
theorem fill_at {w : World} {B : Nat} {T : TypeId} {n c : Nat} {f : Nat → Value} {z0 : Value} (h : w.rowIs B T n (fill f z0 n)) : At w (.slice (some ⟨B, 0, none⟩) n c) f n :=
  ⟨_, c, rfl, fun _ => ⟨B, 0, rfl, h.lt, fun i hi => by rw [Nat.zero_add]; exact fill_cell h hi hi⟩⟩
theorem rowIs_later {w w' : World} {B : Nat} {T : TypeId} {n : Nat} {f : Nat → Value} (h : w.rowIs B T n f) (hb : Below w.heap.size w w') : w'.rowIs B T n f := h.of_block (hb.block B h.lt)
end Go.Cells
