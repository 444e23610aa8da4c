/- The walks of the three arity laws. -/
import Derived.Test.YtclopknkophfkaaGreatDoorFacts
import Derived.Laws.BitsAllLaws
import Derived.Lib.Hide
namespace Go.Proofs.YtclopknkophfkaaGreatDoor
open Go.RowKit
@[go_sem] theorem field_fn1 (x y z : Value) (w : World) : (Instr.field 78 (.agg #[x, y, z]) 1).run Tryz.prog w = .ok y w := by kernel_rfl

theorem acc_bits : ∀ (k : Fin 4) (c : Fin 65), bits .and .i64 (2 ^ k.val) (wrap64 (2 ^ c.val)) = if c.val = k.val then 2 ^ k.val else 0 := by decide +kernel
theorem accept_0 (b : Bool) (fv : Value) (cnt : Int) (h0 : 0 ≤ cnt) (w : World) :
    Calls Tryz.prog 55 #[.agg #[.int .i64 1, .bool b, fv], .int .i64 cnt] w fun e w' => e = .returned (.bool (cnt == 0)) ∧ Below w.heap.size w w' := by
  obtain ⟨m, hm⟩ : ∃ m, min cnt.toNat 64 = m := ⟨_, rfl⟩
  have hb := acc_bits 0 ⟨m, by omega⟩
  have hp : bits .and .i64 1 (wrap64 (2 ^ m)) = if m = 0 then 1 else 0 := hb
  clear hb
  by_cases c : cnt = 0
  · subst c
    have r : (((0 : Int) == 0) = true) := rfl
    have m0 : m = 0 := by rw [← hm]; rfl
    subst m0
    go_enter Tryz.func55, Tryz.ntmps55
    go_wp2
    go_quiet (fail)
    go_wp2
    go_ret
    exact ⟨rfl, below_dN ((Below.refl _ _).alloc (Nat.le_refl _) _) _⟩
  · have m0 : m ≠ 0 := by omega
    rw [if_neg m0] at hp
    have r : (cnt == 0) = false := by simpa using c
    rw [r]
    clear m0
    go_enter Tryz.func55, Tryz.ntmps55
    go_wp2
    go_quiet (fail)
    go_wp2
    go_ret
    exact ⟨rfl, below_dN ((Below.refl _ _).alloc (Nat.le_refl _) _) _⟩
theorem accept_2 (b : Bool) (fv : Value) (cnt : Int) (h0 : 0 ≤ cnt) (w : World) :
    Calls Tryz.prog 55 #[.agg #[.int .i64 4, .bool b, fv], .int .i64 cnt] w fun e w' => e = .returned (.bool (cnt == 2)) ∧ Below w.heap.size w w' := by
  obtain ⟨m, hm⟩ : ∃ m, min cnt.toNat 64 = m := ⟨_, rfl⟩
  have hb := acc_bits 2 ⟨m, by omega⟩
  have hp : bits .and .i64 4 (wrap64 (2 ^ m)) = if m = 2 then 4 else 0 := hb
  clear hb
  by_cases c : cnt = 2
  · subst c
    have r : (((2 : Int) == 2) = true) := rfl
    have m0 : m = 2 := by rw [← hm]; rfl
    subst m0
    go_enter Tryz.func55, Tryz.ntmps55
    go_wp2
    go_quiet (fail)
    go_wp2
    go_ret
    exact ⟨rfl, below_dN ((Below.refl _ _).alloc (Nat.le_refl _) _) _⟩
  · have m0 : m ≠ 2 := by omega
    rw [if_neg m0] at hp
    have r : (cnt == 2) = false := by simpa using c
    rw [r]
    clear m0
    go_enter Tryz.func55, Tryz.ntmps55
    go_wp2
    go_quiet (fail)
    go_wp2
    go_ret
    exact ⟨rfl, below_dN ((Below.refl _ _).alloc (Nat.le_refl _) _) _⟩
theorem accept_3 (b : Bool) (fv : Value) (cnt : Int) (h0 : 0 ≤ cnt) (w : World) :
    Calls Tryz.prog 55 #[.agg #[.int .i64 8, .bool b, fv], .int .i64 cnt] w fun e w' => e = .returned (.bool (cnt == 3)) ∧ Below w.heap.size w w' := by
  obtain ⟨m, hm⟩ : ∃ m, min cnt.toNat 64 = m := ⟨_, rfl⟩
  have hb := acc_bits 3 ⟨m, by omega⟩
  have hp : bits .and .i64 8 (wrap64 (2 ^ m)) = if m = 3 then 8 else 0 := hb
  clear hb
  by_cases c : cnt = 3
  · subst c
    have r : (((3 : Int) == 3) = true) := rfl
    have m0 : m = 3 := by rw [← hm]; rfl
    subst m0
    go_enter Tryz.func55, Tryz.ntmps55
    go_wp2
    go_quiet (fail)
    go_wp2
    go_ret
    exact ⟨rfl, below_dN ((Below.refl _ _).alloc (Nat.le_refl _) _) _⟩
  · have m0 : m ≠ 3 := by omega
    rw [if_neg m0] at hp
    have r : (cnt == 3) = false := by simpa using c
    rw [r]
    clear m0
    go_enter Tryz.func55, Tryz.ntmps55
    go_wp2
    go_quiet (fail)
    go_wp2
    go_ret
    exact ⟨rfl, below_dN ((Below.refl _ _).alloc (Nat.le_refl _) _) _⟩
set_option maxRecDepth 100000 in
set_option maxHeartbeats 1000000 in
theorem walk_FnMathFuncArity (name : ByteArray) (_wn : name.size ≤ maxLen) (cnt : Int) (_wc : (Lit.int .i64 cnt).wf = true) (w : World) :
    Calls Tryz.prog 3 #[.string name, .int .i64 cnt] w fun e w' => e = .returned (.bool true) ∧ Below w.heap.size w w' := by
  clear _wn
  by_cases c1 : (1048576 : Int) < name.size
  · go_enter Tryz.func3, Tryz.ntmps3
    go_wp2_with go_in
    go_ret
    exact ⟨rfl, Below.refl _ _⟩
  · by_cases c2 : cnt < 0
    · go_enter Tryz.func3, Tryz.ntmps3
      go_wp2_with go_in
      go_ret
      exact ⟨rfl, Below.refl _ _⟩
    · by_cases c3 : 65536 < cnt
      · go_enter Tryz.func3, Tryz.ntmps3
        go_wp2_with go_in
        go_ret
        exact ⟨rfl, Below.refl _ _⟩
      · go_enter Tryz.func3, Tryz.ntmps3
        go_wp2_with (first | (go_at_call 55; refine (accept_0 _ _ _ (by omega) _).mono ?_; rintro e w1 ⟨rfl, hb1⟩) | go_in)
        go_ret
        refine ⟨by simp, Below.trans ?_ (hb1.mono (by first | (simp; done) | (simp; omega)))⟩
        repeat (first | exact Below.refl _ _ | refine Below.drew ?_ | refine Below.alloc ?_ (by first | (simp; done) | (simp; omega)) _)
set_option maxRecDepth 100000 in
set_option maxHeartbeats 1000000 in
theorem walk_FnMathFunc2Arity (name : ByteArray) (_wn : name.size ≤ maxLen) (cnt : Int) (_wc : (Lit.int .i64 cnt).wf = true) (w : World) :
    Calls Tryz.prog 4 #[.string name, .int .i64 cnt] w fun e w' => e = .returned (.bool true) ∧ Below w.heap.size w w' := by
  clear _wn
  by_cases c1 : (1048576 : Int) < name.size
  · go_enter Tryz.func4, Tryz.ntmps4
    go_wp2_with go_in
    go_ret
    exact ⟨rfl, Below.refl _ _⟩
  · by_cases c2 : cnt < 0
    · go_enter Tryz.func4, Tryz.ntmps4
      go_wp2_with go_in
      go_ret
      exact ⟨rfl, Below.refl _ _⟩
    · by_cases c3 : 65536 < cnt
      · go_enter Tryz.func4, Tryz.ntmps4
        go_wp2_with go_in
        go_ret
        exact ⟨rfl, Below.refl _ _⟩
      · go_enter Tryz.func4, Tryz.ntmps4
        go_wp2_with (first | (go_at_call 55; refine (accept_2 _ _ _ (by omega) _).mono ?_; rintro e w1 ⟨rfl, hb1⟩) | go_in)
        go_ret
        refine ⟨by simp, Below.trans ?_ (hb1.mono (by first | (simp; done) | (simp; omega)))⟩
        repeat (first | exact Below.refl _ _ | refine Below.drew ?_ | refine Below.alloc ?_ (by first | (simp; done) | (simp; omega)) _)
set_option maxRecDepth 100000 in
set_option maxHeartbeats 1000000 in
theorem walk_FnMathFunc3Arity (name : ByteArray) (_wn : name.size ≤ maxLen) (cnt : Int) (_wc : (Lit.int .i64 cnt).wf = true) (w : World) :
    Calls Tryz.prog 5 #[.string name, .int .i64 cnt] w fun e w' => e = .returned (.bool true) ∧ Below w.heap.size w w' := by
  clear _wn
  by_cases c1 : (1048576 : Int) < name.size
  · go_enter Tryz.func5, Tryz.ntmps5
    go_wp2_with go_in
    go_ret
    exact ⟨rfl, Below.refl _ _⟩
  · by_cases c2 : cnt < 0
    · go_enter Tryz.func5, Tryz.ntmps5
      go_wp2_with go_in
      go_ret
      exact ⟨rfl, Below.refl _ _⟩
    · by_cases c3 : 65536 < cnt
      · go_enter Tryz.func5, Tryz.ntmps5
        go_wp2_with go_in
        go_ret
        exact ⟨rfl, Below.refl _ _⟩
      · go_enter Tryz.func5, Tryz.ntmps5
        go_wp2_with (first | (go_at_call 55; refine (accept_3 _ _ _ (by omega) _).mono ?_; rintro e w1 ⟨rfl, hb1⟩) | go_in)
        go_ret
        refine ⟨by simp, Below.trans ?_ (hb1.mono (by first | (simp; done) | (simp; omega)))⟩
        repeat (first | exact Below.refl _ _ | refine Below.drew ?_ | refine Below.alloc ?_ (by first | (simp; done) | (simp; omega)) _)
end Go.Proofs.YtclopknkophfkaaGreatDoor
