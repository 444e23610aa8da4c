/- A law file's own itoa, walked (the digits while u is above 0): it writes a number's decimal text. -/
import Derived.Test.YtngdcnljbfkneabGreatDoorFacts
import Derived.Test.YtngdcnljbfkneabGreatDoorStr
import Derived.Test.YtngdcnljbfkneabGreatDoorDec
import Derived.Handy
import Derived.WalkSpells
import Derived.WalkSmall
import Derived.Deep.LoopGhost
import Derived.Deep.QuietTactic
import Derived.BigQuiet
import Derived.Lib.Hide
import Derived.Lib.Zigzag
import Derived.Deep.OwnRows
import Derived.Below
namespace Go.Proofs.YtngdcnljbfkneabGreatDoor
open Go.RowKit Go.Deep

theorem bc_dig (r : Nat) (h : r < 10) : Str.bc (UInt8.ofNat (48 + r)) = .int .u8 (48 + (r : Int)) := by
  unfold Str.bc
  rw [UInt8.toNat_ofNat']
  congr 1
  omega
theorem back_neg {m i : Nat} {d : Array UInt8} (h : Dec.Back m i 0 d) (hm : 0 < m) (hi : 0 < i) : (d.setIfInBounds (i - 1) 45).toList.drop (i - 1) = 45 :: Lib.decDigits m := by
  have ht := h.text hm
  have hs := h.size
  have hle := h.le
  have hl : i - 1 < (d.setIfInBounds (i - 1) 45).toList.length := by simp [hs]; omega
  rw [List.drop_eq_getElem_cons hl, show i - 1 + 1 = i from by omega]
  congr 1
  · simp
  · rw [← ht, Array.toList_setIfInBounds]
    exact List.drop_set_of_lt (by omega)
theorem itoa_zero : Lib.itoa 0 = [48] := by
  unfold Lib.itoa
  rw [if_neg (by decide), Lib.decDigits_eq, show (0 : Int).toNat = 0 from rfl, Lib.nDigits_small (by decide)]
  rfl
theorem zeros_map : (Array.replicate 24 (0 : UInt8)).map Str.bc = Lib.zeros24 := by kernel_rfl
set_option maxHeartbeats 4000000 in
set_option maxRecDepth 100000 in
theorem zzItoa_pos (n : Int) (h0 : 0 < n) (h1 : n ≤ 9223372036854775807) (W : World) :
    Calls Tryz.prog 9 #[.int .i64 n] W fun e w' => e = .returned (.string ⟨(Lib.itoa n).toArray⟩) ∧ Below W.heap.size W w' := by
  obtain ⟨m, rfl⟩ : ∃ m : Nat, n = m := ⟨n.toNat, by omega⟩
  have hm : 0 < m := by omega
  have hm64 : m < 18446744073709551616 := by omega
  rw [Lib.itoa_nonneg]
  have HM := Lib.hid hm
  have hsl : ∀ (j : Nat), j < 24 → ∀ w, (Instr.sliceAt 35 (.pointer (some ⟨W.heap.size, 0, none⟩)) (some (.int .i64 (j : Int))) none none).run Tryz.prog w = .ok (.slice (some ⟨W.heap.size, j, none⟩) (24 - j) (24 - j)) w := fun j hj w => by
    rw [run_sliceAt_array_l w 35 ⟨W.heap.size, 0, none⟩ (by kernel_rfl) .i64 (j : Int) (by omega) (by rw [show Tryz.prog.arrayLen 35 = 24 by kernel_rfl]; omega)]
    rw [show Tryz.prog.arrayLen 35 = 24 by kernel_rfl]
    have hne : ¬ (24 = j) := by omega
    go_simp
  have HSL := Lib.hid hsl
  clear hsl
  go_enter Tryz.func9, Tryz.ntmps9
  go_wp2
  go_loopw [5, 7] (fun u i wr => ∃ (ui ii : Nat) (d : Array UInt8), u = .int .u64 ui ∧ i = .int .i64 ii ∧ ii ≤ 24 ∧ ui ≤ m ∧ 0 < ui ∧ Hid (Dec.Back m ii ui d ∧ wr.heap[W.heap.size]? = some (.cells (d.map Str.bc) 35 (0, 0)) ∧ Below W.heap.size W wr)) (fun u _ _ => (intOf u).toNat)
  case atStart => exact ⟨m, 24, Array.replicate 24 0, by first | go_num | exact congrArg _ (by simp only [IntKind.wrap_u64]; omega), by go_num, Nat.le_refl _, Nat.le_refl _, hm, Lib.hid ⟨Dec.Back.start m, by rw [zeros_map]; exact heap_alloc_new _ _, (Below.refl _ _).alloc (Nat.le_refl _) _⟩⟩
  case round =>
    obtain ⟨ui, ii, d, rfl, rfl, hi24, hum, hu1, HR⟩ := hrel
    have hlow := HR.out.1.low hu1 hm64
    obtain ⟨j, hj⟩ : ∃ j, ii = j + 1 := ⟨ii - 1, by omega⟩
    subst hj
    have hstep := HR.out.1.step hu1 (Nat.succ_pos j)
    rw [Nat.add_sub_cancel] at hstep
    obtain ⟨q, hq⟩ : ∃ q, ui / 10 = q := ⟨_, rfl⟩
    obtain ⟨r, hr⟩ : ∃ r, ui % 10 = r := ⟨_, rfl⟩
    have hr10 : r < 10 := by omega
    have hq1 : (ui : Int).tdiv 10 = (q : Int) := by rw [Int.tdiv_eq_ediv_of_nonneg (by omega)]; omega
    have hr1 : (ui : Int).tmod 10 = (r : Int) := by rw [Int.tmod_eq_emod_of_nonneg (by omega)]; omega
    have hq2 : (ui : Int) / 10 = (q : Int) := by omega
    have hr2 : (ui : Int) % 10 = (r : Int) := by omega
    have hqm : q < ui := by omega
    rw [hq, hr] at hstep
    have hco := Str.row_get HR.out.2.1 j (by rw [HR.out.1.size]; omega)
    have hfo : wr.frozen? ⟨W.heap.size, j, none⟩ = false := Lib.frozen_of_heap HR.out.2.1 j
    have HST := Lib.hid hstep
    have HROW := Lib.hid (Str.row_set HR.out.2.1 j (UInt8.ofNat (48 + r)) (.int .u8 (48 + (r : Int))) (bc_dig r hr10).symm)
    have HBL := Lib.hid (HR.out.2.2.setCell (p := ⟨W.heap.size, j, none⟩) (Nat.le_refl _) (.int .u8 (48 + (r : Int))))
    have e1 : (((j + 1 : Nat) : Int)) = (j : Int) + 1 := by omega
    rw [e1]
    clear hq hr hstep e1
    by_cases hq0 : q = 0
    · subst hq0
      have hend := HST.out.end HM.out
      have hnd : Lib.nDigits m ≤ 20 := by have := Lib.numDigits_eq m HM.out hm64; split at this <;> omega
      have hi4 : 4 ≤ j := by
        have h1 : Lib.nDigits m = 24 - j := hend.1
        omega
      have hsz := HST.out.size
      have hl := HST.out.text HM.out
      have hi23 : j < 24 := by omega
      have hs := HSL.out j hi23
      have hcl : (Lib.decDigits m).length = 24 - j := by rw [← hl, List.length_drop]; simp at hsz; simp [hsz]
      have hcv := Str.row_text (P := Tryz.prog) (wr.setCell ⟨W.heap.size, j, none⟩ (.int .u8 (48 + (r : Int)))) W.heap.size j (24 - j) (24 - j) _ 35 36 9 5 Tryz.underlying36 Tryz.underlying5 Tryz.underlying9 HROW.out _ hl hcl.symm
      clear hl hcl hsz hend hnd
      go_wp2
      go_ret
      exact ⟨rfl, HBL.out⟩
    · have hq00 : ((q : Int) == 0) = false := by simp; omega
      go_wp2
      go_roundw
      case rel => exact ⟨q, j, d.setIfInBounds j (UInt8.ofNat (48 + r)), rfl, rfl, by omega, by omega, by omega, Lib.hid ⟨HST.out, HROW.out, HBL.out⟩⟩
      case measure => first | (simp [intOf]; done) | (simp [intOf]; omega)
set_option maxHeartbeats 4000000 in
set_option maxRecDepth 100000 in
theorem zzItoa_neg (n : Int) (h0 : n < 0) (h1 : -9223372036854775808 ≤ n) (W : World) :
    Calls Tryz.prog 9 #[.int .i64 n] W fun e w' => e = .returned (.string ⟨(Lib.itoa n).toArray⟩) ∧ Below W.heap.size W w' := by
  obtain ⟨m, rfl⟩ : ∃ m : Nat, n = -(m : Int) := ⟨n.natAbs, by omega⟩
  have hm : 0 < m := by omega
  have hm64 : m < 18446744073709551616 := by omega
  have hneg : -(-(m : Int) + 1) = (m : Int) - 1 := by omega
  rw [Lib.itoa_neg m hm]
  have HM := Lib.hid hm
  have hsl : ∀ (j : Nat), j < 24 → ∀ w, (Instr.sliceAt 35 (.pointer (some ⟨W.heap.size, 0, none⟩)) (some (.int .i64 (j : Int))) none none).run Tryz.prog w = .ok (.slice (some ⟨W.heap.size, j, none⟩) (24 - j) (24 - j)) w := fun j hj w => by
    rw [run_sliceAt_array_l w 35 ⟨W.heap.size, 0, none⟩ (by kernel_rfl) .i64 (j : Int) (by omega) (by rw [show Tryz.prog.arrayLen 35 = 24 by kernel_rfl]; omega)]
    rw [show Tryz.prog.arrayLen 35 = 24 by kernel_rfl]
    have hne : ¬ (24 = j) := by omega
    go_simp
  have HSL := Lib.hid hsl
  clear hsl
  go_enter Tryz.func9, Tryz.ntmps9
  go_wp2
  go_loopw [5, 7] (fun u i wr => ∃ (ui ii : Nat) (d : Array UInt8), u = .int .u64 ui ∧ i = .int .i64 ii ∧ ii ≤ 24 ∧ ui ≤ m ∧ 0 < ui ∧ Hid (Dec.Back m ii ui d ∧ wr.heap[W.heap.size]? = some (.cells (d.map Str.bc) 35 (0, 0)) ∧ Below W.heap.size W wr)) (fun u _ _ => (intOf u).toNat)
  case atStart => exact ⟨m, 24, Array.replicate 24 0, by first | go_num | exact congrArg _ (by simp only [IntKind.wrap_u64]; omega), by go_num, Nat.le_refl _, Nat.le_refl _, hm, Lib.hid ⟨Dec.Back.start m, by rw [zeros_map]; exact heap_alloc_new _ _, (Below.refl _ _).alloc (Nat.le_refl _) _⟩⟩
  case round =>
    obtain ⟨ui, ii, d, rfl, rfl, hi24, hum, hu1, HR⟩ := hrel
    have hlow := HR.out.1.low hu1 hm64
    obtain ⟨j, hj⟩ : ∃ j, ii = j + 1 := ⟨ii - 1, by omega⟩
    subst hj
    have hstep := HR.out.1.step hu1 (Nat.succ_pos j)
    rw [Nat.add_sub_cancel] at hstep
    obtain ⟨q, hq⟩ : ∃ q, ui / 10 = q := ⟨_, rfl⟩
    obtain ⟨r, hr⟩ : ∃ r, ui % 10 = r := ⟨_, rfl⟩
    have hr10 : r < 10 := by omega
    have hq1 : (ui : Int).tdiv 10 = (q : Int) := by rw [Int.tdiv_eq_ediv_of_nonneg (by omega)]; omega
    have hr1 : (ui : Int).tmod 10 = (r : Int) := by rw [Int.tmod_eq_emod_of_nonneg (by omega)]; omega
    have hq2 : (ui : Int) / 10 = (q : Int) := by omega
    have hr2 : (ui : Int) % 10 = (r : Int) := by omega
    have hqm : q < ui := by omega
    rw [hq, hr] at hstep
    have hco := Str.row_get HR.out.2.1 j (by rw [HR.out.1.size]; omega)
    have hfo : wr.frozen? ⟨W.heap.size, j, none⟩ = false := Lib.frozen_of_heap HR.out.2.1 j
    have HST := Lib.hid hstep
    have HROW := Lib.hid (Str.row_set HR.out.2.1 j (UInt8.ofNat (48 + r)) (.int .u8 (48 + (r : Int))) (bc_dig r hr10).symm)
    have HBL := Lib.hid (HR.out.2.2.setCell (p := ⟨W.heap.size, j, none⟩) (Nat.le_refl _) (.int .u8 (48 + (r : Int))))
    have e1 : (((j + 1 : Nat) : Int)) = (j : Int) + 1 := by omega
    rw [e1]
    clear hq hr hstep e1
    by_cases hq0 : q = 0
    · subst hq0
      have hend := HST.out.end HM.out
      have hnd : Lib.nDigits m ≤ 20 := by have := Lib.numDigits_eq m HM.out hm64; split at this <;> omega
      have hi4 : 4 ≤ j := by
        have h1 : Lib.nDigits m = 24 - j := hend.1
        omega
      have hsz := HST.out.size
      obtain ⟨j1, hj1⟩ : ∃ j1, j = j1 + 1 := ⟨j - 1, by omega⟩
      subst hj1
      have hrow2 := Str.row_set HROW.out j1 45 (.int .u8 45) rfl
      have hl := back_neg HST.out HM.out (Nat.succ_pos j1)
      rw [Nat.add_sub_cancel] at hl
      have hco2 := Str.row_get HROW.out j1 (by rw [hsz]; omega)
      have hfo2 : (wr.setCell ⟨W.heap.size, j1 + 1, none⟩ (.int .u8 (48 + (r : Int)))).frozen? ⟨W.heap.size, j1, none⟩ = false := Lib.frozen_of_heap HROW.out j1
      have hs := HSL.out j1 (by omega)
      have hcl : (45 :: Lib.decDigits m).length = 24 - j1 := by rw [← hl, List.length_drop]; simp at hsz; simp [hsz]
      have hcv2 := Str.row_text (P := Tryz.prog) ((wr.setCell ⟨W.heap.size, j1 + 1, none⟩ (.int .u8 (48 + (r : Int)))).setCell ⟨W.heap.size, j1, none⟩ (.int .u8 45)) W.heap.size j1 (24 - j1) (24 - j1) _ 35 36 9 5 Tryz.underlying36 Tryz.underlying5 Tryz.underlying9 hrow2 _ hl hcl.symm
      have HBL2 := Lib.hid (HBL.out.setCell (p := ⟨W.heap.size, j1, none⟩) (Nat.le_refl _) (.int .u8 45))
      obtain ⟨w2, hw2⟩ : ∃ w2, wr.setCell ⟨W.heap.size, j1 + 1, none⟩ (.int .u8 (48 + (r : Int))) = w2 := ⟨_, rfl⟩
      rw [hw2] at hcv2 hfo2 HBL2 hco2
      have e1 : (((j1 + 1 : Nat) : Int)) = (j1 : Int) + 1 := by omega
      have e2 : (((j1 : Int) + 1).toNat) = j1 + 1 := by omega
      rw [e1]
      clear hrow2 hl hcl hsz hend hnd e1
      go_wp2
      go_ret
      exact ⟨rfl, HBL2.out⟩
    · have hq00 : ((q : Int) == 0) = false := by simp; omega
      go_wp2
      go_roundw
      case rel => exact ⟨q, j, d.setIfInBounds j (UInt8.ofNat (48 + r)), rfl, rfl, by omega, by omega, by omega, Lib.hid ⟨HST.out, HROW.out, HBL.out⟩⟩
      case measure => first | (simp [intOf]; done) | (simp [intOf]; omega)
set_option maxHeartbeats 4000000 in
set_option maxRecDepth 100000 in
theorem zzItoa_zero (W : World) :
    Calls Tryz.prog 9 #[.int .i64 0] W fun e w' => e = .returned (.string ⟨(Lib.itoa 0).toArray⟩) ∧ Below W.heap.size W w' := by
  rw [itoa_zero]
  have hsl : ∀ w, (Instr.sliceAt 35 (.pointer (some ⟨W.heap.size, 0, none⟩)) (some (.int .i64 23)) none none).run Tryz.prog w = .ok (.slice (some ⟨W.heap.size, 23, none⟩) 1 1) w := fun w => by
    rw [run_sliceAt_array_l w 35 ⟨W.heap.size, 0, none⟩ (by kernel_rfl) .i64 23 (by omega) (by rw [show Tryz.prog.arrayLen 35 = 24 by kernel_rfl]; omega)]
    rw [show Tryz.prog.arrayLen 35 = 24 by kernel_rfl]
    go_simp
  go_enter Tryz.func9, Tryz.ntmps9
  go_wp2
  go_loopw [5, 7] (fun u i wr => u = .int .u64 0 ∧ i = .int .i64 24 ∧ Hid (wr.heap[W.heap.size]? = some (.cells ((Array.replicate 24 (0 : UInt8)).map Str.bc) 35 (0, 0)) ∧ Below W.heap.size W wr)) (fun _ _ _ => 0)
  case atStart => exact ⟨rfl, rfl, Lib.hid ⟨by rw [zeros_map]; exact heap_alloc_new _ _, (Below.refl _ _).alloc (Nat.le_refl _) _⟩⟩
  case round =>
    obtain ⟨rfl, rfl, HR⟩ := hrel
    have hco := Str.row_get HR.out.1 23 (by decide)
    have hfo : wr.frozen? ⟨W.heap.size, 23, none⟩ = false := Lib.frozen_of_heap HR.out.1 23
    have HROW := Lib.hid (Str.row_set HR.out.1 23 48 (.int .u8 48) rfl)
    have hcv := Str.row_text (P := Tryz.prog) (wr.setCell ⟨W.heap.size, 23, none⟩ (.int .u8 48)) W.heap.size 23 1 1 _ 35 36 9 5 Tryz.underlying36 Tryz.underlying5 Tryz.underlying9 HROW.out (l := [48]) (by decide +kernel) rfl
    have HBL := Lib.hid (HR.out.2.setCell (p := ⟨W.heap.size, 23, none⟩) (Nat.le_refl _) (.int .u8 48))
    go_wp2
    go_ret
    exact ⟨rfl, HBL.out⟩
theorem zzItoa_any (n : Int) (h0 : -9223372036854775808 ≤ n) (h1 : n ≤ 9223372036854775807) (W : World) :
    Calls Tryz.prog 9 #[.int .i64 n] W fun e w' => e = .returned (.string ⟨(Lib.itoa n).toArray⟩) ∧ Below W.heap.size W w' := by
  rcases Int.lt_trichotomy n 0 with h | h | h
  · exact zzItoa_neg n h h0 W
  · rw [h]; exact zzItoa_zero W
  · exact zzItoa_pos n h h1 W
end Go.Proofs.YtngdcnljbfkneabGreatDoor
