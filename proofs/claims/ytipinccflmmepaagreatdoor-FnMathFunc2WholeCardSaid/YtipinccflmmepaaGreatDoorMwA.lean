/- The pieces of the mathFunc laws: an argument of some kind, its value, its number. -/
import Derived.Test.YtipinccflmmepaaGreatDoorPfC
import Derived.Test.YtipinccflmmepaaGreatDoorItoaM
namespace Go.Proofs.YtipinccflmmepaaGreatDoor
open Go.RowKit Go.Deep

@[go_sem] theorem run_store_float (P : Program) (w : World) (a : Addr) (m : Mode) (k : FloatKind) (b : Nat) : (store a (.float k b) m).run P w = stored P w a (.float k b) m := run_store P w a _ m rfl
@[go_sem] theorem nil_err (w : World) : (binOp .eql 78 .nilIface .nilIface).run Tryz.prog w = .ok (.bool true) w := by kernel_rfl
def tOf (kd : Nat) (n : Int) (t : ByteArray) : ByteArray := if kd = 2 then ⟨(Lib.itoa n).toArray⟩ else if kd = 3 then t else ByteArray.empty
def argV (kd x : Nat) (n : Int) (t : ByteArray) : Value := .agg #[.int .i64 kd, .float .f64 x, .int .i64 n, .string (tOf kd n t)]
def In64 (n : Int) : Prop := -9223372036854775808 ≤ n ∧ n ≤ 9223372036854775807
theorem kd_lt (k : Int) : ∃ kd : Nat, k % 5 = kd ∧ kd < 5 := ⟨(k % 5).toNat, by omega, by omega⟩
set_option maxRecDepth 100000 in
set_option maxHeartbeats 2000000 in
theorem mk_any (k : Int) (h0 : 0 ≤ k) (_h1 : k ≤ 255) (kd : Nat) (hk : k % 5 = kd) (x : Nat) (n : Int) (hn : In64 n) (t : ByteArray) (W : World) :
    Calls Tryz.prog 10 #[.int .u8 k, .float .f64 x, .int .i64 n, .string t] W fun e w' => e = .returned (argV kd x n t) ∧ Below W.heap.size W w' := by
  have hkd : kd < 5 := by omega
  have hr : k.tmod 5 = (kd : Int) := by rw [Int.tmod_eq_emod_of_nonneg h0]; exact hk
  have hn1 := hn.1
  have hn2 := hn.2
  have HI := Lib.hid (fun w => zzItoa_any n hn1 hn2 w)
  clear hn
  unfold argV
  obtain ⟨s, hs⟩ : ∃ s, tOf kd n t = s := ⟨_, rfl⟩
  by_cases c2 : kd = 2
  · subst c2
    obtain rfl : ⟨(Lib.itoa n).toArray⟩ = s := by rw [← hs]; rfl
    rw [hs]
    obtain ⟨s, hs2⟩ : ∃ s : ByteArray, ⟨(Lib.itoa n).toArray⟩ = s := ⟨_, rfl⟩
    rw [hs2] at HI ⊢
    clear hs hs2
    go_enter Tryz.func10, Tryz.ntmps10
    go_wp2_with (go_at_call 25; refine (HI.out _).mono ?_; rintro e w3 ⟨rfl, hb3⟩; have r0 := (hb3.block W.heap.size (by simp)).trans (heap_alloc_new W (.cells #[.int .i64 0, .float .f64 0, .int .i64 0, .string ByteArray.empty] 29)); have HB3 := Lib.hid (((Below.refl W.heap.size W).alloc (Nat.le_refl _) (.cells #[.int .i64 0, .float .f64 0, .int .i64 0, .string ByteArray.empty] 29)).trans (hb3.mono (by simp))); have rc0 : w3.cell? ⟨W.heap.size, 0, none⟩ = some (.int .i64 0) := cell_of_row _ _ 0 _ _ (0, 0) r0; have rc1 : w3.cell? ⟨W.heap.size, 1, none⟩ = some (.float .f64 0) := cell_of_row _ _ 1 _ _ (0, 0) r0; have rc2 : w3.cell? ⟨W.heap.size, 2, none⟩ = some (.int .i64 0) := cell_of_row _ _ 2 _ _ (0, 0) r0; have rc3 : w3.cell? ⟨W.heap.size, 3, none⟩ = some (.string ByteArray.empty) := cell_of_row _ _ 3 _ _ (0, 0) r0; have rf : ∀ o, w3.frozen? ⟨W.heap.size, o, none⟩ = false := fun o => by simp [World.frozen?, show w3.heap[W.heap.size]? = _ from r0])
    refine bodyPost_ret (v := .agg #[.int .i64 2, .float .f64 x, .int .i64 n, .string s]) ?_ rfl ⟨rfl, ?_⟩
    · simp [results, Tryz.results10, go_sem, rc0, rc1, rc2, rc3]
      try rfl
    · go_grown
      exact HB3.out
  · have i2 : ((kd : Int) == 2) = false := by simp; omega
    by_cases c3 : kd = 3
    · subst c3
      obtain rfl : t = s := by rw [← hs]; rfl
      rw [hs]
      clear hs
      go_enter Tryz.func10, Tryz.ntmps10
      go_wp2
      refine bodyPost_ret (v := .agg #[.int .i64 3, .float .f64 x, .int .i64 n, .string t]) ?_ rfl ⟨rfl, ?_⟩
      · simp [results, Tryz.results10, go_sem]
        try rfl
      · go_grown
    · have i3 : ((kd : Int) == 3) = false := by simp; omega
      have hs2 : s = ByteArray.empty := by rw [← hs]; unfold tOf; rw [if_neg c2, if_neg c3]
      rw [hs]
      subst hs2
      clear hs
      go_enter Tryz.func10, Tryz.ntmps10
      go_wp2
      refine bodyPost_ret (v := .agg #[.int .i64 kd, .float .f64 x, .int .i64 n, .string ByteArray.empty]) ?_ rfl ⟨rfl, ?_⟩
      · simp [results, Tryz.results10, go_sem]
        try rfl
      · go_grown
def anyOf (kd x : Nat) (n : Int) (t : ByteArray) : Value :=
  if kd = 0 then .iface 22 (.float .f64 x) else if kd = 1 then .iface 3 (.int .i64 n) else if kd = 2 then .iface 69 (.string ⟨(Lib.itoa n).toArray⟩) else if kd = 3 then .iface 9 (.string t) else .nilIface
theorem any_any (kd x : Nat) (n : Int) (t : ByteArray) (hkd : kd < 5) (W : World) : Calls Tryz.prog 24 #[argV kd x n t] W fun e w' => e = .returned (anyOf kd x n t) ∧ Below W.heap.size W w' := by
  unfold argV anyOf
  rcases (show kd = 0 ∨ kd = 1 ∨ kd = 2 ∨ kd = 3 ∨ kd = 4 by omega) with rfl | rfl | rfl | rfl | rfl
  · show Calls Tryz.prog 24 #[.agg #[.int .i64 0, .float .f64 x, .int .i64 n, .string (ByteArray.empty)]] W fun e w' => e = .returned (.iface 22 (.float .f64 x)) ∧ Below W.heap.size W w'
    go_enter Tryz.func24, Tryz.ntmps24
    go_wp2
    go_ret
    exact ⟨rfl, by first | exact Below.refl _ _ | (go_grown)⟩
  · show Calls Tryz.prog 24 #[.agg #[.int .i64 1, .float .f64 x, .int .i64 n, .string (ByteArray.empty)]] W fun e w' => e = .returned (.iface 3 (.int .i64 n)) ∧ Below W.heap.size W w'
    go_enter Tryz.func24, Tryz.ntmps24
    go_wp2
    go_ret
    exact ⟨rfl, by first | exact Below.refl _ _ | (go_grown)⟩
  · show Calls Tryz.prog 24 #[.agg #[.int .i64 2, .float .f64 x, .int .i64 n, .string (⟨(Lib.itoa n).toArray⟩)]] W fun e w' => e = .returned (.iface 69 (.string ⟨(Lib.itoa n).toArray⟩)) ∧ Below W.heap.size W w'
    obtain ⟨q, hq⟩ : ∃ q : ByteArray, ⟨(Lib.itoa n).toArray⟩ = q := ⟨_, rfl⟩
    rw [hq]
    clear hq
    go_enter Tryz.func24, Tryz.ntmps24
    go_wp2
    go_ret
    exact ⟨rfl, by first | exact Below.refl _ _ | (go_grown)⟩
  · show Calls Tryz.prog 24 #[.agg #[.int .i64 3, .float .f64 x, .int .i64 n, .string (t)]] W fun e w' => e = .returned (.iface 9 (.string t)) ∧ Below W.heap.size W w'
    go_enter Tryz.func24, Tryz.ntmps24
    go_wp2
    go_ret
    exact ⟨rfl, by first | exact Below.refl _ _ | (go_grown)⟩
  · show Calls Tryz.prog 24 #[.agg #[.int .i64 4, .float .f64 x, .int .i64 n, .string (ByteArray.empty)]] W fun e w' => e = .returned (.nilIface) ∧ Below W.heap.size W w'
    go_enter Tryz.func24, Tryz.ntmps24
    go_wp2
    go_ret
    exact ⟨rfl, by first | exact Below.refl _ _ | (go_grown)⟩
def fOf (kd x : Nat) (n : Int) : Nat := if kd = 0 then x else if kd < 3 then floatOfInt .f64 n else 0
theorem fOf_0 (x : Nat) (n : Int) : fOf 0 x n = x := if_pos rfl
theorem fOf_1 (x : Nat) (n : Int) : fOf 1 x n = floatOfInt .f64 n := (if_neg (by decide)).trans (if_pos (by decide))
theorem fOf_2 (x : Nat) (n : Int) : fOf 2 x n = floatOfInt .f64 n := (if_neg (by decide)).trans (if_pos (by decide))
theorem fOf_3 (x : Nat) (n : Int) : fOf 3 x n = 0 := (if_neg (by decide)).trans (if_neg (by decide))
theorem fOf_4 (x : Nat) (n : Int) : fOf 4 x n = 0 := (if_neg (by decide)).trans (if_neg (by decide))
theorem lt3_0 : decide (0 < 3) = true := rfl
theorem lt3_1 : decide (1 < 3) = true := rfl
theorem lt3_2 : decide (2 < 3) = true := rfl
theorem lt3_3 : decide (3 < 3) = false := rfl
theorem lt3_4 : decide (4 < 3) = false := rfl
set_option maxRecDepth 100000 in
set_option maxHeartbeats 2000000 in
theorem to_float (kd x : Nat) (n : Int) (t : ByteArray) (hkd : kd < 5) (hn : In64 n) (W : World) (hp : PfW W) :
    Calls Tryz.prog 33 #[anyOf kd x n t] W fun e w' => e = .returned (.tuple #[.float .f64 (fOf kd x n), .bool (decide (kd < 3))]) ∧ Below W.heap.size W w' := by
  have HN := Lib.hid (num_itoa n hn.1 hn.2 W hp)
  clear hp hn
  rcases (show kd = 0 ∨ kd = 1 ∨ kd = 2 ∨ kd = 3 ∨ kd = 4 by omega) with rfl | rfl | rfl | rfl | rfl
  · rw [fOf_0, lt3_0, show anyOf 0 x n t = .iface 22 (.float .f64 x) from rfl]
    go_enter Tryz.func33, Tryz.ntmps33
    go_wp2_with (go_at_call 42; refine HN.out.mono ?_; rintro e w' ⟨rfl, hb⟩)

    all_goals try go_wp2
    all_goals go_returns
    all_goals exact ⟨rfl, by first | exact Below.refl _ _ | assumption | exact hb.drew⟩
  · rw [fOf_1, lt3_1, show anyOf 1 x n t = .iface 3 (.int .i64 n) from rfl]
    go_enter Tryz.func33, Tryz.ntmps33
    go_wp2_with (go_at_call 42; refine HN.out.mono ?_; rintro e w' ⟨rfl, hb⟩)

    all_goals try go_wp2
    all_goals go_returns
    all_goals exact ⟨rfl, by first | exact Below.refl _ _ | assumption | exact hb.drew⟩
  · rw [fOf_2, lt3_2, show anyOf 2 x n t = .iface 69 (.string ⟨(Lib.itoa n).toArray⟩) from rfl]
    obtain ⟨q, hq⟩ : ∃ q : ByteArray, ⟨(Lib.itoa n).toArray⟩ = q := ⟨_, rfl⟩
    rw [hq] at HN ⊢
    clear hq
    go_enter Tryz.func33, Tryz.ntmps33
    go_wp2_with (go_at_call 42; refine HN.out.mono ?_; rintro e w' ⟨rfl, hb⟩)
    go_region
    all_goals try go_wp2
    all_goals go_returns
    all_goals exact ⟨rfl, by first | exact Below.refl _ _ | assumption | exact hb.drew⟩
  · rw [fOf_3, lt3_3, show anyOf 3 x n t = .iface 9 (.string t) from rfl]
    go_enter Tryz.func33, Tryz.ntmps33
    go_wp2_with (go_at_call 42; refine HN.out.mono ?_; rintro e w' ⟨rfl, hb⟩)

    all_goals try go_wp2
    all_goals go_returns
    all_goals exact ⟨rfl, by first | exact Below.refl _ _ | assumption | exact hb.drew⟩
  · rw [fOf_4, lt3_4, show anyOf 4 x n t = .nilIface from rfl]
    go_enter Tryz.func33, Tryz.ntmps33
    go_wp2_with (go_at_call 42; refine HN.out.mono ?_; rintro e w' ⟨rfl, hb⟩)

    all_goals try go_wp2
    all_goals go_returns
    all_goals exact ⟨rfl, by first | exact Below.refl _ _ | assumption | exact hb.drew⟩
set_option maxHeartbeats 2000000 in
theorem num_any (k : Int) (h0 : 0 ≤ k) (kd : Nat) (hk : k % 5 = kd) (x : Nat) (n : Int) (W : World) :
    Calls Tryz.prog 11 #[.int .u8 k, .float .f64 x, .int .i64 n] W fun e w' => e = .returned (.tuple #[.float .f64 (fOf kd x n), .bool (decide (kd < 3))]) ∧ W = w' := by
  have hkd : kd < 5 := by omega
  have hr : k.tmod 5 = (kd : Int) := by rw [Int.tmod_eq_emod_of_nonneg h0]; exact hk
  rcases (show kd = 0 ∨ kd = 1 ∨ kd = 2 ∨ kd = 3 ∨ kd = 4 by omega) with rfl | rfl | rfl | rfl | rfl
  · rw [fOf_0, lt3_0]
    have hr2 : k.tmod 5 = 0 := hr
    have hr3 : k % 5 = 0 := hk
    clear hr hk
    go_enter Tryz.func11, Tryz.ntmps11
    go_wp2
    go_returns
    exact ⟨rfl, rfl⟩
  · rw [fOf_1, lt3_1]
    have hr2 : k.tmod 5 = 1 := hr
    have hr3 : k % 5 = 1 := hk
    clear hr hk
    go_enter Tryz.func11, Tryz.ntmps11
    go_wp2
    go_returns
    exact ⟨rfl, rfl⟩
  · rw [fOf_2, lt3_2]
    have hr2 : k.tmod 5 = 2 := hr
    have hr3 : k % 5 = 2 := hk
    clear hr hk
    go_enter Tryz.func11, Tryz.ntmps11
    go_wp2
    go_returns
    exact ⟨rfl, rfl⟩
  · rw [fOf_3, lt3_3]
    have hr2 : k.tmod 5 = 3 := hr
    have hr3 : k % 5 = 3 := hk
    clear hr hk
    go_enter Tryz.func11, Tryz.ntmps11
    go_wp2
    go_returns
    exact ⟨rfl, rfl⟩
  · rw [fOf_4, lt3_4]
    have hr2 : k.tmod 5 = 4 := hr
    have hr3 : k % 5 = 4 := hk
    clear hr hk
    go_enter Tryz.func11, Tryz.ntmps11
    go_wp2
    go_returns
    exact ⟨rfl, rfl⟩
end Go.Proofs.YtipinccflmmepaaGreatDoor
