/- Contracts: slices.Values over a slice of interface values, for every loop body that keeps what lay when the loop began. -/
import Derived.Test.YtonbnmpleecegabGreatDoorFacts
import Derived.RangeFuncBox
import Derived.RangeFuncLeaves
import Derived.RangeFuncNested
import Derived.RangeFuncBound
import Derived.RangeFuncCalls
import Derived.Shelf.Abstract
import Derived.OwnWalkIn
import Derived.TacticsInMore
import Derived.LoopNIn
import Derived.LoopIn
import Derived.Maps.AppendAt
namespace Go.Proofs.YtonbnmpleecegabGreatDoor
open Go.RowKit Go.Shelf

attribute [local go_sem] Oper.semAt_some

/-- What has come when k rounds are over. -/
def upto {α : Type} (f : Nat → α) (k : Nat) : List α := (List.range k).map f
theorem upto_succ {α : Type} (f : Nat → α) (k : Nat) : upto f (k + 1) = upto f k ++ [f k] := by simp [upto, List.range_succ]
theorem upto_length {α : Type} (f : Nat → α) (k : Nat) : (upto f k).length = k := by simp [upto]

set_option maxRecDepth 100000 in
set_option maxHeartbeats 2000000 in
theorem values1_in {α : Type} (enc : α → Value) (f : Nat → α) (F : Fence) (n : Nat) (hF : F.fn 22) (hro : F.round = none) (_hn : 1 ≤ n) (l Bs n₀ b off len cap : Nat) (hreach : len ≤ 9007199254740992) (hb : 0 < len → b < n₀) (J Jx : List α → World → Prop)
    (hY : ∀ pre x W, J pre W → pre.length < len → YieldAt F (n - 1) Tryz.prog l #[enc x] W fun e W' =>
      (e = .returned (.bool true) ∧ J (pre ++ [x]) W' ∧ Below n₀ W W') ∨ (e = .returned (.bool false) ∧ Jx (pre ++ [x]) W'))
    (W : World) (hBs : W.cell? ⟨Bs, 0, none⟩ = some (.slice (some ⟨b, off, none⟩) len cap)) (hc : ∀ j, j < len → W.cell? ⟨b, off + j, none⟩ = some (enc (f j))) (h0 : J [] W) :
    CallsIn F n Tryz.prog 22 #[.func (.yield l) #[] #[], .pointer (some ⟨Bs, 0, none⟩)] W fun e W' => (∃ v, e = .returned v) ∧
      ((∃ ys, ys = upto f len ∧ J ys W') ∨ (∃ pre, (∃ k, k ≤ len ∧ pre = upto f k) ∧ Jx pre W')) := by
  refine callsIn_of_wp Tryz.func22 rfl hF ?_ hro
  simp only [Tryz.ntmps22, List.size_toArray, List.length_cons, List.length_nil, Nat.reduceAdd, Nat.reduceSub, Array.replicate_succ, Array.replicate_zero, List.push_toArray, List.append_toArray, List.nil_append, List.cons_append]
  gi_wp2
  gi_loopw [7] (fun i wr => ∃ k : Nat, k ≤ len ∧ i = .int .i64 k ∧ J (upto f k) wr ∧ Below n₀ W wr)
    (fun i _ => len - (intOf i).toNat)
  case atStart => exact ⟨0, Nat.zero_le _, rfl, h0, Below.refl _ _⟩
  case round =>
    obtain ⟨k, hk, rfl, hJs, hnx⟩ := hrel
    by_cases hlt : k < len
    · have hcx : wr.cell? ⟨b, off + k, none⟩ = some (enc (f k)) := (hnx.cell (p := ⟨b, off + k, none⟩) (hb (by omega))).trans (hc k hlt)
      obtain ⟨fn, tmps, assign, body, hy, hR⟩ := hY _ (f k) wr hJs (by rw [upto_length]; exact hlt)
      gi_wp2
      refine hR.mono ?_
      rintro e W3 (⟨rfl, hJ3, hk3⟩ | ⟨rfl, hJx3⟩)
      · gi_wp2
        go_roundw
        case rel => exact ⟨k + 1, by omega, by simp, by rw [upto_succ]; exact hJ3, hnx.trans hk3⟩
        case measure => simp [intOf]; omega
      · gi_wp2
        refine bodyPost_ret (results_none rfl _ _ _) rfl ?_
        exact ⟨⟨_, rfl⟩, .inr ⟨_, ⟨k + 1, by omega, (upto_succ _ _).symm⟩, hJx3⟩⟩
    · obtain rfl : k = len := by omega
      gi_wp2
      go_end0
      exact ⟨⟨_, rfl⟩, .inl ⟨_, rfl, hJs⟩⟩
set_option maxHeartbeats 1000000 in
/-- slices.Values(s): the slice value is boxed; the function value captures the box. -/
theorem values_in (F : Fence) (n : Nat) (hF : F.fn 15) (hro : F.round = none) (a : Option Addr) (len cap : Nat) (w : World) :
    CallsIn F n Tryz.prog 15 #[.slice a len cap] w fun e w' => e = .returned (.func (.func 22) #[] #[.pointer (some ⟨w.heap.size, 0, none⟩)]) ∧ w' = w.alloc (.cells #[.slice a len cap] 38) := by
  refine callsIn_of_wp Tryz.func15 rfl hF ?_ hro
  simp only [Tryz.ntmps15, List.size_toArray, List.length_cons, List.length_nil, Nat.reduceAdd, Nat.reduceSub, Array.replicate_succ, Array.replicate_zero, List.push_toArray, List.append_toArray, List.nil_append, List.cons_append]
  gi_wp2
  go_ret
  exact ⟨rfl, rfl⟩
theorem upto_prefix {α : Type} (f : Nat → α) {k m : Nat} (h : k ≤ m) : upto f k <+: upto f m := by
  refine ⟨(upto f m).drop k, ?_⟩
  have : upto f k = (upto f m).take k := by
    unfold upto
    rw [← List.map_take, List.take_range, Nat.min_eq_left h]
  rw [this, List.take_append_drop]
/-- slices.Values(s) hands back a value that gives all elements in order, or a first part of them. -/
theorem values_stops {α : Type} (enc : α → Value) (f : Nat → α) (F : Fence) (n : Nat) (hF : F.fn 22) (hro : F.round = none) (hn : 1 ≤ n) (Bs n₀ b off len cap : Nat) (hreach : len ≤ 9007199254740992) (hb : 0 < len → b < n₀) (w : World) (hBs : Bs < w.heap.size) (hn₀ : n₀ ≤ w.heap.size)
    (hc : w.cell? ⟨Bs, 0, none⟩ = some (.slice (some ⟨b, off, none⟩) len cap)) (hI : ∀ j, j < len → w.cell? ⟨b, off + j, none⟩ = some (enc (f j))) :
    SeqStopsK F n Tryz.prog 22 #[.pointer (some ⟨Bs, 0, none⟩)] (fun x : α => #[enc x]) (Below n₀) (fun ys => ys = upto f len) (fun pre => pre <+: upto f len) len w := fun l J Jx W hW _ _ hY h0 => by
  have hc' := (hW.cell (p := ⟨Bs, 0, none⟩) hBs).trans hc
  refine (values1_in enc f F n hF hro hn l Bs n₀ b off len cap hreach hb J Jx hY W hc' (fun j hj => ((hW.mono hn₀).cell (p := ⟨b, off + j, none⟩) (hb (by omega))).trans (hI j hj)) h0).mono ?_
  rintro e W' ⟨he, ⟨ys, rfl, hj⟩ | ⟨pre, ⟨k, hk, rfl⟩, hj⟩⟩
  · exact ⟨he, .inl ⟨_, rfl, hj⟩⟩
  · exact ⟨he, .inr ⟨_, upto_prefix f hk, hj⟩⟩
end Go.Proofs.YtonbnmpleecegabGreatDoor
