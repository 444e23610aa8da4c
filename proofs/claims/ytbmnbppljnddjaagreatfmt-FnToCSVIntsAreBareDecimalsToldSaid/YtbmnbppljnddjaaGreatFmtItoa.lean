/- The law file's own itoa, walked: it writes a number's decimal text. -/
import Derived.Test.YtbmnbppljnddjaaGreatFmtFacts
import Derived.Test.YtbmnbppljnddjaaGreatFmtStr
import Derived.Test.YtbmnbppljnddjaaGreatFmtDec
import Derived.Handy
import Derived.WalkSpells
import Derived.WalkSmall
import Derived.Deep.LoopGhost
import Derived.Deep.QuietTactic
import Derived.BigQuiet
import Derived.Lib.Hide
import Derived.Lib.Zigzag
import Derived.Deep.OwnRows
import Derived.Below
namespace Go.Proofs.YtbmnbppljnddjaaGreatFmt
open Go.RowKit Go.Deep

theorem bc_dig (r : Nat) (h : r < 10) : Str.bc (UInt8.ofNat (48 + r)) = .int .u8 (48 + (r : Int)) := by
  unfold Str.bc
  rw [UInt8.toNat_ofNat']
  congr 1
  omega
theorem back_neg {m i : Nat} {d : Array UInt8} (h : Dec.Back m i 0 d) (hm : 0 < m) (hi : 0 < i) : (d.setIfInBounds (i - 1) 45).toList.drop (i - 1) = 45 :: Lib.decDigits m := by
  have ht := h.text hm
  have hs := h.size
  have hle := h.le
  have hl : i - 1 < (d.setIfInBounds (i - 1) 45).toList.length := by simp [hs]; omega
  rw [List.drop_eq_getElem_cons hl, show i - 1 + 1 = i from by omega]
  congr 1
  · simp
  · rw [← ht, Array.toList_setIfInBounds]
    exact List.drop_set_of_lt (by omega)
theorem itoa_zero : Lib.itoa 0 = [48] := by
  unfold Lib.itoa
  rw [if_neg (by decide), Lib.decDigits_eq, show (0 : Int).toNat = 0 from rfl, Lib.nDigits_small (by decide)]
  rfl
theorem zeros_map : (Array.replicate 24 (0 : UInt8)).map Str.bc = Lib.zeros24 := by kernel_rfl

set_option maxHeartbeats 4000000 in
set_option maxRecDepth 100000 in
theorem itoaR_pos (n : Int) (h0 : 0 < n) (h1 : n ≤ 9223372036854775807) (W : World) :
    Calls Tryz.prog 20 #[.int .i64 n] W fun e w' => e = .returned (.string ⟨(Lib.itoa n).toArray⟩) ∧ Below W.heap.size W w' := by
  obtain ⟨m, rfl⟩ : ∃ m : Nat, n = m := ⟨n.toNat, by omega⟩
  have hm : 0 < m := by omega
  have hm64 : m < 18446744073709551616 := by omega
  rw [Lib.itoa_nonneg]
  have HM := Lib.hid hm
  have hsl : ∀ (j : Nat), j < 24 → ∀ w, (Instr.sliceAt 40 (.pointer (some ⟨W.heap.size, 0, none⟩)) (some (.int .i64 (j : Int))) none none).run Tryz.prog w = .ok (.slice (some ⟨W.heap.size, j, none⟩) (24 - j) (24 - j)) w := fun j hj w => by
    rw [run_sliceAt_array_l w 40 ⟨W.heap.size, 0, none⟩ (by kernel_rfl) .i64 (j : Int) (by omega) (by rw [show Tryz.prog.arrayLen 40 = 24 by kernel_rfl]; omega)]
    rw [show Tryz.prog.arrayLen 40 = 24 by kernel_rfl]
    have hne : ¬ (24 = j) := by omega
    go_simp
  have HSL := Lib.hid hsl
  clear hsl
  go_enter Tryz.func20, Tryz.ntmps20
  go_wp2
  go_loopw [4, 6] (fun u i wr => ∃ (ui j : Nat) (d : Array UInt8), u = .int .u64 ui ∧ i = .int .i64 ((j : Int) + 1) ∧ 0 < ui ∧ 4 ≤ j ∧ j ≤ 23 ∧ ui ≤ m ∧ Hid (Dec.Back m (j + 1) ui d ∧ wr.heap[W.heap.size]? = some (.cells (d.map Str.bc) 40 (0, 0)) ∧ Below W.heap.size W wr)) (fun _ i _ => (intOf i).toNat)
  case atStart => exact ⟨m, 23, Array.replicate 24 0, by first | go_num | exact congrArg _ (by rw [IntKind.wrap_u64]; omega), by go_num, hm, by decide, by decide, Nat.le_refl _, Lib.hid ⟨Dec.Back.start m, by rw [zeros_map]; exact heap_alloc_new _ _, (Below.refl _ _).alloc (Nat.le_refl _) _⟩⟩
  case round =>
    obtain ⟨ui, j, d, rfl, rfl, hu0, hj4, hj23, hum, HR⟩ := hrel
    have hstep := HR.out.1.step hu0 (Nat.succ_pos j)
    rw [Nat.add_sub_cancel] at hstep
    obtain ⟨q, hq⟩ : ∃ q, ui / 10 = q := ⟨_, rfl⟩
    obtain ⟨r, hr⟩ : ∃ r, ui % 10 = r := ⟨_, rfl⟩
    have hr10 : r < 10 := by omega
    have hq1 : (ui : Int).tdiv 10 = (q : Int) := by rw [Int.tdiv_eq_ediv_of_nonneg (by omega)]; omega
    have hr1 : (ui : Int).tmod 10 = (r : Int) := by rw [Int.tmod_eq_emod_of_nonneg (by omega)]; omega
    have hq2 : (ui : Int) / 10 = (q : Int) := by omega
    have hr2 : (ui : Int) % 10 = (r : Int) := by omega
    have hqm : q ≤ m := by omega
    rw [hq, hr] at hstep
    have hco := Str.row_get HR.out.2.1 j (by rw [HR.out.1.size]; omega)
    have hfo : wr.frozen? ⟨W.heap.size, j, none⟩ = false := Lib.frozen_of_heap HR.out.2.1 j
    have hrow := Str.row_set HR.out.2.1 j (UInt8.ofNat (48 + r)) (.int .u8 (48 + (r : Int))) (bc_dig r hr10).symm
    have hbl : Below W.heap.size W (wr.setCell ⟨W.heap.size, j, none⟩ (.int .u8 (48 + (r : Int)))) := HR.out.2.2.setCell (Nat.le_refl _) _
    have HST := Lib.hid hstep
    have HROW := Lib.hid hrow
    have HBL := Lib.hid hbl
    clear hq hr hstep hrow hbl
    by_cases hq0 : q = 0
    · subst hq0
      have hlow : 4 ≤ j := hj4
      have hl := HST.out.text HM.out
      have hsz : d.size = 24 := HR.out.1.size
      have hs := HSL.out j (by omega)
      have hcl : (Lib.decDigits m).length = 24 - j := by rw [← hl, List.length_drop]; simp [hsz]
      have hcv := Str.row_text (P := Tryz.prog) (wr.setCell ⟨W.heap.size, j, none⟩ (.int .u8 (48 + (r : Int)))) W.heap.size j (24 - j) (24 - j) _ 40 26 9 5 Tryz.underlying26 Tryz.underlying5 Tryz.underlying9 HROW.out _ hl hcl.symm
      clear hl hcl hsz
      go_wp2
      go_ret
      exact ⟨rfl, HBL.out⟩
    · have hlow := HST.out.low (Nat.pos_of_ne_zero hq0) hm64
      have hqi : ((q : Int) == 0) = false := by simp; omega
      have hq0' : ¬ ((q : Int) = 0) := by omega
      obtain ⟨j1, hj1⟩ : ∃ j1, j = j1 + 1 := ⟨j - 1, by omega⟩
      have HJ1 := Lib.hid hj1
      have hj1b : 4 ≤ j1 ∧ j1 ≤ 23 := by omega
      have HJB := Lib.hid hj1b
      clear hj1 hj1b
      go_wp2
      go_roundw
      case rel => exact ⟨q, j1, d.setIfInBounds j (UInt8.ofNat (48 + r)), rfl, by rw [HJ1.out]; go_num, by omega, HJB.out.1, HJB.out.2, hqm, Lib.hid ⟨by rw [← HJ1.out]; exact HST.out, HROW.out, HBL.out⟩⟩
      case measure => first | (simp [intOf]; done) | (simp [intOf]; omega)

set_option maxHeartbeats 4000000 in
set_option maxRecDepth 100000 in
theorem itoaR_neg (n : Int) (h0 : n < 0) (h1 : -9223372036854775808 ≤ n) (W : World) :
    Calls Tryz.prog 20 #[.int .i64 n] W fun e w' => e = .returned (.string ⟨(Lib.itoa n).toArray⟩) ∧ Below W.heap.size W w' := by
  obtain ⟨m, rfl⟩ : ∃ m : Nat, n = -(m : Int) := ⟨n.natAbs, by omega⟩
  have hm : 0 < m := by omega
  have hm64 : m < 18446744073709551616 := by omega
  have hxor : bits .xor .u64 IntKind.u64.max (IntKind.u64.wrap (-(m : Int))) = (m : Int) - 1 := by
    have e1 : IntKind.u64.wrap (-(m : Int)) = ((18446744073709551616 - m : Nat) : Int) := by rw [IntKind.wrap_u64]; omega
    have e2 : IntKind.u64.max = ((2 ^ 64 - 1 : Nat) : Int) := by decide
    rw [e1, e2, bits_xor_u64_nat _ _ (by decide) (by omega), Lib.xor_ones64 _ (by omega)]
    omega
  rw [Lib.itoa_neg m hm]
  have HM := Lib.hid hm
  have hsl : ∀ (j : Nat), j < 24 → ∀ w, (Instr.sliceAt 40 (.pointer (some ⟨W.heap.size, 0, none⟩)) (some (.int .i64 (j : Int))) none none).run Tryz.prog w = .ok (.slice (some ⟨W.heap.size, j, none⟩) (24 - j) (24 - j)) w := fun j hj w => by
    rw [run_sliceAt_array_l w 40 ⟨W.heap.size, 0, none⟩ (by kernel_rfl) .i64 (j : Int) (by omega) (by rw [show Tryz.prog.arrayLen 40 = 24 by kernel_rfl]; omega)]
    rw [show Tryz.prog.arrayLen 40 = 24 by kernel_rfl]
    have hne : ¬ (24 = j) := by omega
    go_simp
  have HSL := Lib.hid hsl
  clear hsl
  go_enter Tryz.func20, Tryz.ntmps20
  go_wp2
  go_loopw [4, 6] (fun u i wr => ∃ (ui j : Nat) (d : Array UInt8), u = .int .u64 ui ∧ i = .int .i64 ((j : Int) + 1) ∧ 0 < ui ∧ 4 ≤ j ∧ j ≤ 23 ∧ ui ≤ m ∧ Hid (Dec.Back m (j + 1) ui d ∧ wr.heap[W.heap.size]? = some (.cells (d.map Str.bc) 40 (0, 0)) ∧ Below W.heap.size W wr)) (fun _ i _ => (intOf i).toNat)
  case atStart => exact ⟨m, 23, Array.replicate 24 0, by first | go_num | exact congrArg _ (by rw [IntKind.wrap_u64]; omega), by go_num, hm, by decide, by decide, Nat.le_refl _, Lib.hid ⟨Dec.Back.start m, by rw [zeros_map]; exact heap_alloc_new _ _, (Below.refl _ _).alloc (Nat.le_refl _) _⟩⟩
  case round =>
    obtain ⟨ui, j, d, rfl, rfl, hu0, hj4, hj23, hum, HR⟩ := hrel
    have hstep := HR.out.1.step hu0 (Nat.succ_pos j)
    rw [Nat.add_sub_cancel] at hstep
    obtain ⟨q, hq⟩ : ∃ q, ui / 10 = q := ⟨_, rfl⟩
    obtain ⟨r, hr⟩ : ∃ r, ui % 10 = r := ⟨_, rfl⟩
    have hr10 : r < 10 := by omega
    have hq1 : (ui : Int).tdiv 10 = (q : Int) := by rw [Int.tdiv_eq_ediv_of_nonneg (by omega)]; omega
    have hr1 : (ui : Int).tmod 10 = (r : Int) := by rw [Int.tmod_eq_emod_of_nonneg (by omega)]; omega
    have hq2 : (ui : Int) / 10 = (q : Int) := by omega
    have hr2 : (ui : Int) % 10 = (r : Int) := by omega
    have hqm : q ≤ m := by omega
    rw [hq, hr] at hstep
    have hco := Str.row_get HR.out.2.1 j (by rw [HR.out.1.size]; omega)
    have hfo : wr.frozen? ⟨W.heap.size, j, none⟩ = false := Lib.frozen_of_heap HR.out.2.1 j
    have hrow := Str.row_set HR.out.2.1 j (UInt8.ofNat (48 + r)) (.int .u8 (48 + (r : Int))) (bc_dig r hr10).symm
    have hbl : Below W.heap.size W (wr.setCell ⟨W.heap.size, j, none⟩ (.int .u8 (48 + (r : Int)))) := HR.out.2.2.setCell (Nat.le_refl _) _
    have HST := Lib.hid hstep
    have HROW := Lib.hid hrow
    have HBL := Lib.hid hbl
    clear hq hr hstep hrow hbl
    by_cases hq0 : q = 0
    · subst hq0
      have hlow : 4 ≤ j := hj4
      obtain ⟨j1, hj1⟩ : ∃ j1, j = j1 + 1 := ⟨j - 1, by omega⟩
      subst hj1
      have hsz : d.size = 24 := HR.out.1.size
      have hrow2 := Str.row_set HROW.out j1 45 (.int .u8 45) rfl
      have hl := back_neg HST.out HM.out (Nat.succ_pos j1)
      rw [Nat.add_sub_cancel] at hl
      have hco2 := Str.row_get HROW.out j1 (by rw [HST.out.size]; omega)
      have hfo2 : (wr.setCell ⟨W.heap.size, j1 + 1, none⟩ (.int .u8 (48 + (r : Int)))).frozen? ⟨W.heap.size, j1, none⟩ = false := Lib.frozen_of_heap HROW.out j1
      have hs := HSL.out j1 (by omega)
      have hcl : (45 :: Lib.decDigits m).length = 24 - j1 := by rw [← hl, List.length_drop]; simp [hsz]
      have hcv := fun w' (hw : w' = (wr.setCell ⟨W.heap.size, j1 + 1, none⟩ (.int .u8 (48 + (r : Int)))).setCell ⟨W.heap.size, j1, none⟩ (.int .u8 45)) => Str.row_text (P := Tryz.prog) w' W.heap.size j1 (24 - j1) (24 - j1) _ 40 26 9 5 Tryz.underlying26 Tryz.underlying5 Tryz.underlying9 (by rw [hw]; exact hrow2) _ hl hcl.symm
      have hcv2 := hcv _ rfl
      have hbl2 := HBL.out.setCell (p := ⟨W.heap.size, j1, none⟩) (Nat.le_refl _) (.int .u8 45)
      have HBL2 := Lib.hid hbl2
      clear hcv hbl2 hrow2 hl hcl hsz
      go_wp2
      go_ret
      exact ⟨rfl, HBL2.out⟩
    · have hlow := HST.out.low (Nat.pos_of_ne_zero hq0) hm64
      have hqi : ((q : Int) == 0) = false := by simp; omega
      have hq0' : ¬ ((q : Int) = 0) := by omega
      obtain ⟨j1, hj1⟩ : ∃ j1, j = j1 + 1 := ⟨j - 1, by omega⟩
      have HJ1 := Lib.hid hj1
      have hj1b : 4 ≤ j1 ∧ j1 ≤ 23 := by omega
      have HJB := Lib.hid hj1b
      clear hj1 hj1b
      go_wp2
      go_roundw
      case rel => exact ⟨q, j1, d.setIfInBounds j (UInt8.ofNat (48 + r)), rfl, by rw [HJ1.out]; go_num, by omega, HJB.out.1, HJB.out.2, hqm, Lib.hid ⟨by rw [← HJ1.out]; exact HST.out, HROW.out, HBL.out⟩⟩
      case measure => first | (simp [intOf]; done) | (simp [intOf]; omega)

set_option maxHeartbeats 4000000 in
set_option maxRecDepth 100000 in
theorem itoaR_zero (W : World) :
    Calls Tryz.prog 20 #[.int .i64 0] W fun e w' => e = .returned (.string ⟨(Lib.itoa 0).toArray⟩) ∧ Below W.heap.size W w' := by
  have hsl : ∀ (j : Nat), j < 24 → ∀ w, (Instr.sliceAt 40 (.pointer (some ⟨W.heap.size, 0, none⟩)) (some (.int .i64 (j : Int))) none none).run Tryz.prog w = .ok (.slice (some ⟨W.heap.size, j, none⟩) (24 - j) (24 - j)) w := fun j hj w => by
    rw [run_sliceAt_array_l w 40 ⟨W.heap.size, 0, none⟩ (by kernel_rfl) .i64 (j : Int) (by omega) (by rw [show Tryz.prog.arrayLen 40 = 24 by kernel_rfl]; omega)]
    rw [show Tryz.prog.arrayLen 40 = 24 by kernel_rfl]
    have hne : ¬ (24 = j) := by omega
    go_simp
  have hs := hsl 23 (by decide)
  clear hsl
  have hz : (W.alloc (.cells Lib.zeros24 40)).heap[W.heap.size]? = some (.cells ((Array.replicate 24 (0 : UInt8)).map Str.bc) 40 (0, 0)) := by rw [zeros_map]; exact heap_alloc_new _ _
  have hz2 : (W.alloc (.cells (Lib.zeros24.setIfInBounds 23 (.int .u8 48)) 40)).heap[W.heap.size]? = some (.cells (((Array.replicate 24 (0 : UInt8)).setIfInBounds 23 48).map Str.bc) 40 (0, 0)) := by
    rw [← Str.map_set, zeros_map]
    exact heap_alloc_new _ _
  have hcv := Str.row_text (P := Tryz.prog) _ W.heap.size 23 1 1 _ 40 26 9 5 Tryz.underlying26 Tryz.underlying5 Tryz.underlying9 hz2 [48] (by decide) rfl
  have HZ := Lib.hid hz
  clear hz hz2
  go_enter Tryz.func20, Tryz.ntmps20
  go_wp2
  go_loopw [4, 6] (fun u i wr => u = .int .u64 0 ∧ i = .int .i64 24 ∧ wr = W.alloc (.cells Lib.zeros24 40)) (fun _ i _ => (intOf i).toNat)
  case atStart => exact ⟨rfl, rfl, rfl⟩
  case round =>
    obtain ⟨rfl, rfl, rfl⟩ := hrel
    have hco := Str.row_get HZ.out 23 (by decide)
    have hfo : (W.alloc (.cells Lib.zeros24 40)).frozen? ⟨W.heap.size, 23, none⟩ = false := Lib.frozen_of_heap HZ.out 23
    go_wp2
    go_ret
    exact ⟨by rw [itoa_zero]; rfl, by first | exact (Below.refl _ _).alloc (Nat.le_refl _) _ | exact ((Below.refl _ _).alloc (Nat.le_refl _) _).setCell (Nat.le_refl _) _⟩

theorem itoaR_any (n : Int) (h0 : -9223372036854775808 ≤ n) (h1 : n ≤ 9223372036854775807) (W : World) :
    Calls Tryz.prog 20 #[.int .i64 n] W fun e w' => e = .returned (.string ⟨(Lib.itoa n).toArray⟩) ∧ Below W.heap.size W w' := by
  rcases Int.lt_trichotomy n 0 with h | h | h
  · exact itoaR_neg n h h0 W
  · rw [h]; exact itoaR_zero W
  · exact itoaR_pos n h h1 W
end Go.Proofs.YtbmnbppljnddjaaGreatFmt
