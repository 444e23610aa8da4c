/- Contracts of pub/bigall at one word: maxPow, pow, make, setWord, mulAddWW, norm. -/
import Derived.Test.YtngdcnljbfkneabGreatDoorRdr
import Derived.Lib.RabinKarpLaws
import Derived.Deep.OwnRows
namespace Go.Proofs.YtngdcnljbfkneabGreatDoor
open Go.RowKit Go.Dec Go.Lib Go.Deep

theorem pow_tab : ∀ k : Fin 20, 1 ≤ k.val → ((10 ^ k.val ≤ 1844674407370955161 ↔ k.val < 19) ∧ (k.val < 19 → 10 ^ k.val * 10 = 10 ^ (k.val + 1) ∧ 10 ^ (k.val + 1) < 18446744073709551616)) := by decide +kernel
set_option maxRecDepth 100000 in
set_option maxHeartbeats 4000000 in
theorem maxpow_ten (w : World) : Calls Tryz.prog 40 #[.int .u64 10] w fun e w' => e = .returned (.tuple #[.int .u64 10000000000000000000, .int .i64 19]) ∧ w = w' := by
  go_enter Tryz.func40, Tryz.ntmps40
  go_wp2
  go_loop [2, 3] (fun p n => ∃ k v : Nat, 1 ≤ k ∧ k ≤ 19 ∧ p = .int .u64 v ∧ n = .int .i64 k ∧ Hid (v = 10 ^ k)) (fun _ n => 19 - (RowKit.intOf n).toNat)
  case atStart => exact ⟨1, 10, by decide, by decide, rfl, rfl, Lib.hid rfl⟩
  case round =>
    obtain ⟨k, v, hk1, hk2, rfl, rfl, HV⟩ := hrel
    obtain ⟨t1, t2⟩ := pow_tab ⟨k, by omega⟩ hk1
    simp only [] at t1 t2
    rw [← HV.out] at t1 t2
    by_cases hlt : k < 19
    · have h1 : v ≤ 1844674407370955161 := t1.2 hlt
      obtain ⟨h2, h3⟩ := t2 hlt
      have h4 : Hid (v * 10 = 10 ^ (k + 1)) := Lib.hid h2
      have h5 : v * 10 < 18446744073709551616 := by rw [h2]; exact h3
      clear t1 t2 h2 h3
      go_wp2
      go_round
      case rel => exact ⟨k + 1, v * 10, by omega, by omega, by go_num, by go_num, Lib.hid h4.out⟩
      case measure => simp [RowKit.intOf]; omega
    · obtain rfl : k = 19 := by omega
      have hv : v = 10000000000000000000 := by rw [HV.out]
      subst hv
      clear t1 t2
      go_wp2
      go_returns
      exact ⟨rfl, rfl⟩
set_option maxRecDepth 100000 in
set_option maxHeartbeats 4000000 in
theorem pow_any (i : Nat) (hi : i ≤ 100) (w : World) : Calls Tryz.prog 73 #[.int .u64 10, .int .i64 i] w fun e w' => (∃ v : Int, e = .returned (.int .u64 v)) ∧ w = w' := by
  go_enter Tryz.func73, Tryz.ntmps73
  go_wp2
  go_loop [0, 1, 4] (fun x n p => ∃ (a b : Int) (k : Nat), k ≤ 100 ∧ x = .int .u64 a ∧ n = .int .i64 k ∧ p = .int .u64 b) (fun _ n _ => (RowKit.intOf n).toNat)
  case atStart => exact ⟨10, 1, i, hi, rfl, rfl, rfl⟩
  case round =>
    obtain ⟨a, b, k, hk, rfl, rfl, rfl⟩ := hrel
    have ha := and_one k (by omega)
    by_cases hlt : 0 < k
    · by_cases c : k % 2 = 0
      · rw [c] at ha
        go_wp2
        go_round
        case rel => exact ⟨_, _, k / 2, by omega, rfl, by go_num, rfl⟩
        case measure => simp [RowKit.intOf]; omega
      · rw [show k % 2 = 1 by omega] at ha
        go_wp2
        go_round
        case rel => exact ⟨_, _, k / 2, by omega, rfl, by go_num, rfl⟩
        case measure => simp [RowKit.intOf]; omega
    · obtain rfl : k = 0 := by omega
      go_wp2
      go_ret
      exact ⟨⟨_, rfl⟩, rfl⟩
theorem info_word : (Tryz.prog.info? 79).map (fun i => (i.zero, i.size, i.bytes)) = some (some (.int .u64 0), 1, 8) := by kernel_rfl
/-- A nat of one word in a new row. -/
def OneNat (w w' : World) (v : Value) (x : Nat) : Prop := ∃ g, v = .slice (some ⟨g, 0, none⟩) 1 1 ∧ w.heap.size ≤ g ∧ w'.heap[g]? = some (.cells #[.int .u64 x] 79 (0, 0))
set_option maxRecDepth 100000 in
set_option maxHeartbeats 4000000 in
theorem set_word (x : Nat) (h0 : 0 < x) (w : World) : Calls Tryz.prog 82 #[.slice none 0 0, .int .u64 x] w fun e w' => (∃ v, e = .returned v ∧ OneNat w w' v x) ∧ Below w.heap.size w w' := by
  have hx : ((x : Int) == 0) = false := by simp; omega
  have hmk : ∀ w, (Instr.makeSlice 52 (.int .i64 1) (.int .i64 1)).run Tryz.prog w = .ok (.slice (some ⟨w.heap.size, 0, none⟩) 1 1) (w.alloc (.cells #[.int .u64 0] 79)) := fun w => by
    have h := run_make_row' (P := Tryz.prog) 52 79 (.int .u64 0) 8 Tryz.underlying52 info_word rfl .i64 .i64 1 (by decide) (by decide) w
    rw [show madeCells #[Value.int .u64 0] 1 = #[Value.int .u64 0] from by kernel_rfl] at h
    exact h
  have hm : ∀ w, Calls Tryz.prog 61 #[.slice none 0 0, .int .i64 1] w fun e w' => e = .returned (.slice (some ⟨w.heap.size, 0, none⟩) 1 1) ∧ w' = w.alloc (.cells #[.int .u64 0] 79) := by
    intro w
    go_enter Tryz.func61, Tryz.ntmps61
    go_wp2
    go_returns
    exact ⟨rfl, rfl⟩
  have HM := Lib.hid hm
  clear hm hmk
  go_enter Tryz.func82, Tryz.ntmps82
  go_wp2_with (go_at_call 61; refine (HM.out _).mono ?_; rintro e w1 ⟨rfl, rfl⟩)
  go_returns
  refine ⟨⟨_, rfl, _, rfl, Nat.le_refl _, heap_alloc_new _ _⟩, ?_⟩
  go_grown
theorem mul_add_nil (p : Int) (x : Nat) (h0 : 0 < x) (w : World) : Calls Tryz.prog 72 #[.slice none 0 0, .slice none 0 0, .int .u64 p, .int .u64 x] w fun e w' => (∃ v, e = .returned v ∧ OneNat w w' v x) ∧ Below w.heap.size w w' := by
  have H := Lib.hid (set_word x h0 w)
  go_enter Tryz.func72, Tryz.ntmps72
  go_wp2_with (go_at_call 82; refine H.out.mono ?_; rintro e w1 ⟨⟨v, rfl, g, rfl, hg, hc⟩, hb⟩; have HB := Lib.hid hb; have HC := Lib.hid hc; clear hb hc)
  go_returns
  exact ⟨⟨_, rfl, _, rfl, hg, HC.out⟩, HB.out⟩
set_option maxRecDepth 100000 in
set_option maxHeartbeats 4000000 in
theorem norm_one (g x : Nat) (h0 : 0 < x) (w : World) (h : w.heap[g]? = some (.cells #[.int .u64 x] 79 (0, 0))) : Calls Tryz.prog 75 #[.slice (some ⟨g, 0, none⟩) 1 1] w fun e w' => e = .returned (.slice (some ⟨g, 0, none⟩) 1 1) ∧ w = w' := by
  have hx : ((x : Int) == 0) = false := by simp; omega
  have hc : w.cell? ⟨g, 0, none⟩ = some (.int .u64 x) := cell_of_row _ _ 0 _ _ (0, 0) h
  go_enter Tryz.func75, Tryz.ntmps75
  go_wp2
  go_loop [3] (fun i => i = .int .i64 1) (fun _ => 0)
  case atStart => rfl
  case round =>
    subst hrel
    go_wp2
    go_ret
    exact ⟨rfl, rfl⟩
end Go.Proofs.YtngdcnljbfkneabGreatDoor
