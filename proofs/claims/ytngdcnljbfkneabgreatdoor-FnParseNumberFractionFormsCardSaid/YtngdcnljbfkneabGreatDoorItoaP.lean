/- A law file's own itoa, walked (the digits while u is above 0): it writes a number's decimal text. -/
import Derived.Test.YtngdcnljbfkneabGreatDoorFacts
import Derived.Test.YtngdcnljbfkneabGreatDoorStr
import Derived.Test.YtngdcnljbfkneabGreatDoorDec
import Derived.Handy
import Derived.WalkSpells
import Derived.WalkSmall
import Derived.Deep.LoopGhost
import Derived.Deep.QuietTactic
import Derived.BigQuiet
import Derived.Lib.Hide
import Derived.Lib.Zigzag
import Derived.Deep.OwnRows
import Derived.Below
namespace Go.Proofs.YtngdcnljbfkneabGreatDoor.P34
open Go.RowKit Go.Deep

theorem bc_dig (r : Nat) (h : r < 10) : Str.bc (UInt8.ofNat (48 + r)) = .int .u8 (48 + (r : Int)) := by
  unfold Str.bc
  rw [UInt8.toNat_ofNat']
  congr 1
  omega
theorem back_neg {m i : Nat} {d : Array UInt8} (h : Dec.Back m i 0 d) (hm : 0 < m) (hi : 0 < i) : (d.setIfInBounds (i - 1) 45).toList.drop (i - 1) = 45 :: Lib.decDigits m := by
  have ht := h.text hm
  have hs := h.size
  have hle := h.le
  have hl : i - 1 < (d.setIfInBounds (i - 1) 45).toList.length := by simp [hs]; omega
  rw [List.drop_eq_getElem_cons hl, show i - 1 + 1 = i from by omega]
  congr 1
  · simp
  · rw [← ht, Array.toList_setIfInBounds]
    exact List.drop_set_of_lt (by omega)
theorem itoa_zero : Lib.itoa 0 = [48] := by
  unfold Lib.itoa
  rw [if_neg (by decide), Lib.decDigits_eq, show (0 : Int).toNat = 0 from rfl, Lib.nDigits_small (by decide)]
  rfl
theorem zeros_map : (Array.replicate 24 (0 : UInt8)).map Str.bc = Lib.zeros24 := by kernel_rfl
set_option maxHeartbeats 4000000 in
set_option maxRecDepth 100000 in
theorem zzItoa_pos (n : Int) (h0 : 0 < n) (h1 : n ≤ 9223372036854775807) (W : World) :
    Calls Tryz.prog 5 #[.int .i64 n] W fun e w' => e = .returned (.string ⟨(Lib.itoa n).toArray⟩) ∧ Below W.heap.size W w' := by
  obtain ⟨m, rfl⟩ : ∃ m : Nat, n = m := ⟨n.toNat, by omega⟩
  have hm : 0 < m := by omega
  have hm64 : m < 18446744073709551616 := by omega
  rw [Lib.itoa_nonneg]
  have HM := Lib.hid hm
  have hsl : ∀ (j : Nat), j < 24 → ∀ w, (Instr.sliceAt 35 (.pointer (some ⟨W.heap.size, 0, none⟩)) (some (.int .i64 (j : Int))) none none).run Tryz.prog w = .ok (.slice (some ⟨W.heap.size, j, none⟩) (24 - j) (24 - j)) w := fun j hj w => by
    rw [run_sliceAt_array_l w 35 ⟨W.heap.size, 0, none⟩ (by kernel_rfl) .i64 (j : Int) (by omega) (by rw [show Tryz.prog.arrayLen 35 = 24 by kernel_rfl]; omega)]
    rw [show Tryz.prog.arrayLen 35 = 24 by kernel_rfl]
    have hne : ¬ (24 = j) := by omega
    go_simp
  have HSL := Lib.hid hsl
  clear hsl
  go_enter Tryz.func5, Tryz.ntmps5
  go_wp2
  go_loopw [4, 6] (fun u i wr => ∃ (ui ii : Nat) (d : Array UInt8), u = .int .u64 ui ∧ i = .int .i64 ii ∧ ii ≤ 24 ∧ ui ≤ m ∧ Hid (Dec.Back m ii ui d ∧ wr.heap[W.heap.size]? = some (.cells (d.map Str.bc) 35 (0, 0)) ∧ Below W.heap.size W wr)) (fun u _ _ => (intOf u).toNat)
  case atStart => exact ⟨m, 24, Array.replicate 24 0, by first | go_num | exact congrArg _ (by simp only [IntKind.wrap_u64]; omega), by go_num, Nat.le_refl _, Nat.le_refl _, Lib.hid ⟨Dec.Back.start m, by rw [zeros_map]; exact heap_alloc_new _ _, (Below.refl _ _).alloc (Nat.le_refl _) _⟩⟩
  case round =>
    obtain ⟨ui, ii, d, rfl, rfl, hi24, hum, HR⟩ := hrel
    by_cases hu0 : ui = 0
    · subst hu0
      have hend := HR.out.1.end HM.out
      have hnd : Lib.nDigits m ≤ 20 := by have := Lib.numDigits_eq m HM.out hm64; split at this <;> omega
      have hi4 : 4 ≤ ii := by
        have h1 : Lib.nDigits m = 24 - ii := hend.1
        have h2 : ii ≤ 24 := hi24
        omega
      have hl := HR.out.1.text HM.out
      have hsz := HR.out.1.size
      have hi23 : ii < 24 := by
        have h1 : Lib.nDigits m = 24 - ii := hend.1
        have h2 := Lib.nDigits_pos m
        omega
      have hs := HSL.out ii hi23
      have hcl : (Lib.decDigits m).length = 24 - ii := by rw [← hl, List.length_drop]; simp [hsz]
      have hcv := Str.row_text (P := Tryz.prog) wr W.heap.size ii (24 - ii) (24 - ii) _ 35 36 9 5 Tryz.underlying36 Tryz.underlying5 Tryz.underlying9 HR.out.2.1 _ hl hcl.symm
      clear hl hcl hsz hend hnd
      go_wp2
      go_ret
      exact ⟨rfl, HR.out.2.2⟩
    · have hu1 : 0 < ui := Nat.pos_of_ne_zero hu0
      have hlow := HR.out.1.low hu1 hm64
      obtain ⟨j, hj⟩ : ∃ j, ii = j + 1 := ⟨ii - 1, by omega⟩
      subst hj
      have hstep := HR.out.1.step hu1 (Nat.succ_pos j)
      rw [Nat.add_sub_cancel] at hstep
      obtain ⟨q, hq⟩ : ∃ q, ui / 10 = q := ⟨_, rfl⟩
      obtain ⟨r, hr⟩ : ∃ r, ui % 10 = r := ⟨_, rfl⟩
      have hr10 : r < 10 := by omega
      have hq1 : (ui : Int).tdiv 10 = (q : Int) := by rw [Int.tdiv_eq_ediv_of_nonneg (by omega)]; omega
      have hr1 : (ui : Int).tmod 10 = (r : Int) := by rw [Int.tmod_eq_emod_of_nonneg (by omega)]; omega
      have hq2 : (ui : Int) / 10 = (q : Int) := by omega
      have hr2 : (ui : Int) % 10 = (r : Int) := by omega
      have hqm : q < ui := by omega
      rw [hq, hr] at hstep
      have hco := Str.row_get HR.out.2.1 j (by rw [HR.out.1.size]; omega)
      have hfo : wr.frozen? ⟨W.heap.size, j, none⟩ = false := Lib.frozen_of_heap HR.out.2.1 j
      have HST := Lib.hid hstep
      have HROW := Lib.hid (Str.row_set HR.out.2.1 j (UInt8.ofNat (48 + r)) (.int .u8 (48 + (r : Int))) (bc_dig r hr10).symm)
      have HBL := Lib.hid (HR.out.2.2.setCell (p := ⟨W.heap.size, j, none⟩) (Nat.le_refl _) (.int .u8 (48 + (r : Int))))
      have e1 : (((j + 1 : Nat) : Int)) = (j : Int) + 1 := by omega
      rw [e1]
      clear hq hr hstep e1 hu0
      go_wp2
      go_roundw
      case rel => exact ⟨q, j, d.setIfInBounds j (UInt8.ofNat (48 + r)), rfl, rfl, by omega, by omega, Lib.hid ⟨HST.out, HROW.out, HBL.out⟩⟩
      case measure => first | (simp [intOf]; done) | (simp [intOf]; omega)
set_option maxHeartbeats 4000000 in
set_option maxRecDepth 100000 in
theorem zzItoa_neg (n : Int) (h0 : n < 0) (h1 : -9223372036854775808 ≤ n) (W : World) :
    Calls Tryz.prog 5 #[.int .i64 n] W fun e w' => e = .returned (.string ⟨(Lib.itoa n).toArray⟩) ∧ Below W.heap.size W w' := by
  obtain ⟨m, rfl⟩ : ∃ m : Nat, n = -(m : Int) := ⟨n.natAbs, by omega⟩
  have hm : 0 < m := by omega
  have hm64 : m < 18446744073709551616 := by omega
  have hw : IntKind.u64.wrap (-IntKind.u64.wrap (-(m : Int))) = (m : Int) := by
    have h1 : IntKind.u64.wrap (-(m : Int)) = 18446744073709551616 - (m : Int) := by
      simp [IntKind.wrap, IntKind.bits, IntKind.signed]
      omega
    rw [h1]
    simp [IntKind.wrap, IntKind.bits, IntKind.signed]
    omega
  have hz : ((m : Int) == 0) = false := by simp; omega
  rw [Lib.itoa_neg m hm]
  have HM := Lib.hid hm
  have hsl : ∀ (j : Nat), j < 24 → ∀ w, (Instr.sliceAt 35 (.pointer (some ⟨W.heap.size, 0, none⟩)) (some (.int .i64 (j : Int))) none none).run Tryz.prog w = .ok (.slice (some ⟨W.heap.size, j, none⟩) (24 - j) (24 - j)) w := fun j hj w => by
    rw [run_sliceAt_array_l w 35 ⟨W.heap.size, 0, none⟩ (by kernel_rfl) .i64 (j : Int) (by omega) (by rw [show Tryz.prog.arrayLen 35 = 24 by kernel_rfl]; omega)]
    rw [show Tryz.prog.arrayLen 35 = 24 by kernel_rfl]
    have hne : ¬ (24 = j) := by omega
    go_simp
  have HSL := Lib.hid hsl
  clear hsl
  go_enter Tryz.func5, Tryz.ntmps5
  go_wp2
  go_loopw [4, 6] (fun u i wr => ∃ (ui ii : Nat) (d : Array UInt8), u = .int .u64 ui ∧ i = .int .i64 ii ∧ ii ≤ 24 ∧ ui ≤ m ∧ Hid (Dec.Back m ii ui d ∧ wr.heap[W.heap.size]? = some (.cells (d.map Str.bc) 35 (0, 0)) ∧ Below W.heap.size W wr)) (fun u _ _ => (intOf u).toNat)
  case atStart => exact ⟨m, 24, Array.replicate 24 0, by first | go_num | exact congrArg _ (by simp only [IntKind.wrap_u64]; omega), by go_num, Nat.le_refl _, Nat.le_refl _, Lib.hid ⟨Dec.Back.start m, by rw [zeros_map]; exact heap_alloc_new _ _, (Below.refl _ _).alloc (Nat.le_refl _) _⟩⟩
  case round =>
    obtain ⟨ui, ii, d, rfl, rfl, hi24, hum, HR⟩ := hrel
    by_cases hu0 : ui = 0
    · subst hu0
      have hend := HR.out.1.end HM.out
      have hnd : Lib.nDigits m ≤ 20 := by have := Lib.numDigits_eq m HM.out hm64; split at this <;> omega
      have hi4 : 4 ≤ ii := by
        have h1 : Lib.nDigits m = 24 - ii := hend.1
        have h2 : ii ≤ 24 := hi24
        omega
      obtain ⟨j1, hj1⟩ : ∃ j1, ii = j1 + 1 := ⟨ii - 1, by omega⟩
      subst hj1
      have hsz := HR.out.1.size
      have hrow2 := Str.row_set HR.out.2.1 j1 45 (.int .u8 45) rfl
      have hl := back_neg HR.out.1 HM.out (Nat.succ_pos j1)
      rw [Nat.add_sub_cancel] at hl
      have hco2 := Str.row_get HR.out.2.1 j1 (by rw [hsz]; omega)
      have hfo2 : wr.frozen? ⟨W.heap.size, j1, none⟩ = false := Lib.frozen_of_heap HR.out.2.1 j1
      have hs := HSL.out j1 (by omega)
      have hcl : (45 :: Lib.decDigits m).length = 24 - j1 := by rw [← hl, List.length_drop]; simp [hsz]
      have hcv2 := Str.row_text (P := Tryz.prog) (wr.setCell ⟨W.heap.size, j1, none⟩ (.int .u8 45)) W.heap.size j1 (24 - j1) (24 - j1) _ 35 36 9 5 Tryz.underlying36 Tryz.underlying5 Tryz.underlying9 hrow2 _ hl hcl.symm
      have HBL2 := Lib.hid (HR.out.2.2.setCell (p := ⟨W.heap.size, j1, none⟩) (Nat.le_refl _) (.int .u8 45))
      have e1 : (((j1 + 1 : Nat) : Int)) = (j1 : Int) + 1 := by omega
      rw [e1]
      clear e1 hrow2 hl hcl hsz hend hnd
      go_wp2
      go_ret
      exact ⟨rfl, HBL2.out⟩
    · have hu1 : 0 < ui := Nat.pos_of_ne_zero hu0
      have hlow := HR.out.1.low hu1 hm64
      obtain ⟨j, hj⟩ : ∃ j, ii = j + 1 := ⟨ii - 1, by omega⟩
      subst hj
      have hstep := HR.out.1.step hu1 (Nat.succ_pos j)
      rw [Nat.add_sub_cancel] at hstep
      obtain ⟨q, hq⟩ : ∃ q, ui / 10 = q := ⟨_, rfl⟩
      obtain ⟨r, hr⟩ : ∃ r, ui % 10 = r := ⟨_, rfl⟩
      have hr10 : r < 10 := by omega
      have hq1 : (ui : Int).tdiv 10 = (q : Int) := by rw [Int.tdiv_eq_ediv_of_nonneg (by omega)]; omega
      have hr1 : (ui : Int).tmod 10 = (r : Int) := by rw [Int.tmod_eq_emod_of_nonneg (by omega)]; omega
      have hq2 : (ui : Int) / 10 = (q : Int) := by omega
      have hr2 : (ui : Int) % 10 = (r : Int) := by omega
      have hqm : q < ui := by omega
      rw [hq, hr] at hstep
      have hco := Str.row_get HR.out.2.1 j (by rw [HR.out.1.size]; omega)
      have hfo : wr.frozen? ⟨W.heap.size, j, none⟩ = false := Lib.frozen_of_heap HR.out.2.1 j
      have HST := Lib.hid hstep
      have HROW := Lib.hid (Str.row_set HR.out.2.1 j (UInt8.ofNat (48 + r)) (.int .u8 (48 + (r : Int))) (bc_dig r hr10).symm)
      have HBL := Lib.hid (HR.out.2.2.setCell (p := ⟨W.heap.size, j, none⟩) (Nat.le_refl _) (.int .u8 (48 + (r : Int))))
      have e1 : (((j + 1 : Nat) : Int)) = (j : Int) + 1 := by omega
      rw [e1]
      clear hq hr hstep e1 hu0
      go_wp2
      go_roundw
      case rel => exact ⟨q, j, d.setIfInBounds j (UInt8.ofNat (48 + r)), rfl, rfl, by omega, by omega, Lib.hid ⟨HST.out, HROW.out, HBL.out⟩⟩
      case measure => first | (simp [intOf]; done) | (simp [intOf]; omega)
set_option maxHeartbeats 1000000 in
theorem zzItoa_zero (W : World) :
    Calls Tryz.prog 5 #[.int .i64 0] W fun e w' => e = .returned (.string ⟨(Lib.itoa 0).toArray⟩) ∧ Below W.heap.size W w' := by
  go_enter Tryz.func5, Tryz.ntmps5
  go_wp2
  go_ret
  exact ⟨by rw [itoa_zero]; rfl, by first | exact Below.refl _ _ | exact (Below.refl _ _).alloc (Nat.le_refl _) _⟩
theorem zzItoa_any (n : Int) (h0 : -9223372036854775808 ≤ n) (h1 : n ≤ 9223372036854775807) (W : World) :
    Calls Tryz.prog 5 #[.int .i64 n] W fun e w' => e = .returned (.string ⟨(Lib.itoa n).toArray⟩) ∧ Below W.heap.size W w' := by
  rcases Int.lt_trichotomy n 0 with h | h | h
  · exact zzItoa_neg n h h0 W
  · rw [h]; exact zzItoa_zero W
  · exact zzItoa_pos n h h1 W
end Go.Proofs.YtngdcnljbfkneabGreatDoor.P34
