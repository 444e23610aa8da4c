/- Contract: arrayToTime over a row of fields. -/
import Derived.Test.YtonbnmpleecegaaGreatDoorAttP
namespace Go.Proofs.YtonbnmpleecegaaGreatDoor
open Go.RowKit Go.Deep

set_option maxRecDepth 100000 in
set_option maxHeartbeats 4000000 in
theorem att_ok (F : Nat → Value) (Z : Nat → Int) (N n m : Nat) (hm1 : m ≤ n) (hm2 : m ≤ 8) (hm3 : m = n ∨ m = 8) (hF : ∀ j, j < m → j ≠ 5 → F j = .iface 3 (.int .i64 (Z j))) (h5 : 5 < m → SecOk (F 5) (Z 5) N) (hN : N < 1000000000)
    (bZ : ∀ j, j < 6 → -1900000 ≤ vl Z m j ∧ vl Z m j ≤ 1900000) (v : Value) (lb : Nat) (w : World) (hv : Cells.At w v F n) (hc : w.cell? ⟨lb, 0, none⟩ = some (.bool true)) (hz : w.cell? ⟨lb, 2, none⟩ = some (.slice none 0 0)) (hl : lb < w.heap.size) :
    Calls Tryz.prog 19 #[v, .pointer (some ⟨lb, 0, none⟩)] w fun e w' => e = .returned (.tuple #[.agg #[.int .u64 ((nsl N m : Nat) : Int), .int .i64 (unixZ (vl Z m 0) (vl Z m 1) (vl Z m 2) (vl Z m 3) (vl Z m 4) (vl Z m 5) + 62135596800), .pointer none], .nilIface]) ∧ Below w.heap.size w w' := by
  obtain ⟨a, cap, rfl, hcc⟩ := hv
  have HC := Lib.hid hcc
  have HF := Lib.hid hF
  have H5 := Lib.hid h5
  clear hcc hF h5
  go_enter Tryz.func19, Tryz.ntmps19
  go_wp2
  go_loopw [24, 13] (fun i ns wr => ∃ k : Nat, k ≤ m ∧ i = .int .i64 k ∧ ns = .int .i64 ((nsl N k : Nat) : Int) ∧ Hid (Vars Z k w.heap.size w wr)) (fun i _ _ => 8 - (intOf i).toNat)
  case atStart => exact ⟨0, Nat.zero_le _, rfl, rfl, Lib.hid (vars_start w Z)⟩
  case round =>
    obtain ⟨k, hk, rfl, rfl, HR⟩ := hrel
    by_cases hlt : k < m
    · obtain ⟨b, off, hx, hbl, hcell⟩ := HC.out (by omega)
      cases hx
      have hcx : wr.cell? ⟨b, off + k, none⟩ = some (F k) := (HR.out.below.cell (p := ⟨b, off + k, none⟩) hbl).trans (hcell k (by omega))
      have hpx : wr.cell? ⟨w.heap.size + 1 + 1 + 1 + 1 + 1 + 1 + 1 + 1 + 1 + 1, k, none⟩ = some (.pointer (some ⟨w.heap.size + 2 + k, 0, none⟩)) := HR.out.ptr k (by omega)
      have hvx := cell_of_one (HR.out.var k (by omega))
      have hfx := free_of_one (HR.out.var k (by omega))
      clear hcell
      by_cases h5k : k = 5
      · subst h5k
        obtain ⟨x, fl, r1, r2, f1, f2, f3, f4, f5, f6⟩ := H5.out hlt
        have k1 := fun w => run_convert_float_int (P := Tryz.prog) w 25 3 .f64 .i64 x (Z 5) (by kernel_rfl) Tryz.underlying3 f3
        have k2 := fun w => run_float_arith (P := Tryz.prog) w .sub 25 .f64 x fl r1 f4
        have k3 := fun w => run_float_arith (P := Tryz.prog) w .mul 25 .f64 r1 4741671816366391296 r2 f5
        have k4 := fun w => run_convert_float_int (P := Tryz.prog) w 25 3 .f64 .i64 r2 (N : Int) (by kernel_rfl) Tryz.underlying3 f6
        have G1 := Lib.hid f1
        have G2 := Lib.hid f2
        clear f1 f2 f3 f4 f5 f6
        go_wp2_with (first | (go_at_call 31; with_reducible refine (G1.out _).mono ?_; rintro e w' ⟨rfl, rfl⟩) | (go_at_call 32; with_reducible refine (G2.out _).mono ?_; rintro e w' ⟨rfl, rfl⟩))
        go_roundw
        case rel => exact ⟨6, by omega, rfl, rfl, Lib.hid (HR.out.store (by omega) _ rfl)⟩
        case measure => simp [intOf]
      · have hFk := HF.out k hlt h5k
        rw [hFk] at hcx
        have t5 : ((k : Int) == 5) = false := by simp; omega
        have hns : Hid (nsl N k = nsl N (k + 1)) := Lib.hid (by unfold nsl; by_cases c : 5 < k; rw [if_pos c, if_pos (by omega)]; rw [if_neg c, if_neg (by omega)])
        clear hFk
        go_wp2_with (go_at_call 33; with_reducible refine (toInt_i (Z k) _).mono ?_; rintro e w' ⟨rfl, rfl⟩)
        go_roundw
        case rel => exact ⟨k + 1, by omega, by go_num, by rw [hns.out], Lib.hid (HR.out.store (by omega) _ rfl)⟩
        case measure => simp [intOf]; omega
    · obtain rfl : k = m := by omega
      have c0 : wr.cell? ⟨w.heap.size + 1 + 1, 0, none⟩ = some (.int .i64 (vl Z k 0)) := cell_of_one (HR.out.var 0 (by omega))
      have c1 : wr.cell? ⟨w.heap.size + 1 + 1 + 1, 0, none⟩ = some (.int .i64 (vl Z k 1)) := cell_of_one (HR.out.var 1 (by omega))
      have c2 : wr.cell? ⟨w.heap.size + 1 + 1 + 1 + 1, 0, none⟩ = some (.int .i64 (vl Z k 2)) := cell_of_one (HR.out.var 2 (by omega))
      have c3 : wr.cell? ⟨w.heap.size + 1 + 1 + 1 + 1 + 1, 0, none⟩ = some (.int .i64 (vl Z k 3)) := cell_of_one (HR.out.var 3 (by omega))
      have c4 : wr.cell? ⟨w.heap.size + 1 + 1 + 1 + 1 + 1 + 1, 0, none⟩ = some (.int .i64 (vl Z k 4)) := cell_of_one (HR.out.var 4 (by omega))
      have c5 : wr.cell? ⟨w.heap.size + 1 + 1 + 1 + 1 + 1 + 1 + 1, 0, none⟩ = some (.int .i64 (vl Z k 5)) := cell_of_one (HR.out.var 5 (by omega))
      obtain ⟨bm1, bm2⟩ := bZ 1 (by decide)
      have hns : nsl N k < 1000000000 := by unfold nsl; split <;> omega
      have hd : ∀ w, w.cell? ⟨lb, 0, none⟩ = some (.bool true) → w.cell? ⟨lb, 2, none⟩ = some (.slice none 0 0) → lb < w.heap.size → Calls Tryz.prog 34 #[.int .i64 (vl Z k 0), .int .i64 (vl Z k 1 + 1), .int .i64 (vl Z k 2), .int .i64 (vl Z k 3), .int .i64 (vl Z k 4), .int .i64 (vl Z k 5), .int .i64 ((nsl N k : Nat) : Int), .pointer (some ⟨lb, 0, none⟩)] w
          fun e w' => e = .returned (.agg #[.int .u64 ((nsl N k : Nat) : Int), .int .i64 (unixZ (vl Z k 0) (vl Z k 1) (vl Z k 2) (vl Z k 3) (vl Z k 4) (vl Z k 5) + 62135596800), .pointer none]) ∧ Below w.heap.size w w' := fun w g1 g2 g3 => by
        have q0 := bZ 0 (by decide)
        have q2 := bZ 2 (by decide)
        have q3 := bZ 3 (by decide)
        have q4 := bZ 4 (by decide)
        have q5 := bZ 5 (by decide)
        have := date_any (vl Z k 0) (vl Z k 1 + 1) (vl Z k 2) (vl Z k 3) (vl Z k 4) (vl Z k 5) (nsl N k) lb (by omega) (by omega) (by omega) (by omega) (by omega) (by omega) (by omega) (by omega) (by omega) (by omega) (by omega) (by omega) hns w g1 g2 g3
        rwa [show vl Z k 1 + 1 - 1 = vl Z k 1 from by omega] at this
      have HD := Lib.hid hd
      have hlr : lb < wr.heap.size := Nat.lt_of_lt_of_le hl HR.out.below.size
      have hcr := Lib.hid ((HR.out.below.cell (p := ⟨lb, 0, none⟩) hl).trans hc)
      have hzr := Lib.hid ((HR.out.below.cell (p := ⟨lb, 2, none⟩) hl).trans hz)
      have HU := Lib.hid (unixZ_name (vl Z k 0) (vl Z k 1) (vl Z k 2) (vl Z k 3) (vl Z k 4) (vl Z k 5))
      have HBZ := Lib.hid bZ
      have HM3 := Lib.hid hm3
      clear hd bZ hc hz hm3
      rcases Nat.lt_or_ge k 8 with h8 | h8
      · obtain rfl : n = k := by have := HM3.out; omega
        have hpx : wr.cell? ⟨w.heap.size + 1 + 1 + 1 + 1 + 1 + 1 + 1 + 1 + 1 + 1, n, none⟩ = some (.pointer (some ⟨w.heap.size + 2 + n, 0, none⟩)) := HR.out.ptr n (by omega)
        go_wp2_with fail
        with_reducible refine (HD.out _ hcr.out hzr.out hlr).mono ?_
        rintro e w2 ⟨rfl, hb2⟩
        have r0 := (hb2.block w.heap.size (by have := HR.out.size; omega)).trans HR.out.res
        have rc0 : w2.cell? ⟨w.heap.size, 0, none⟩ = some (.int .u64 0) := cell_of_row _ _ 0 _ _ (0, 0) r0
        have rc1 : w2.cell? ⟨w.heap.size, 1, none⟩ = some (.int .i64 0) := cell_of_row _ _ 1 _ _ (0, 0) r0
        have rc2 : w2.cell? ⟨w.heap.size, 2, none⟩ = some (.pointer none) := cell_of_row _ _ 2 _ _ (0, 0) r0
        have rf : ∀ o, w2.frozen? ⟨w.heap.size, o, none⟩ = false := fun o => by simp [World.frozen?, r0]
        have HB2 := Lib.hid (HR.out.below.trans (hb2.mono HR.out.below.size))
        clear hb2 r0
        go_wp2
        refine bodyPost_ret (v := .tuple #[.agg #[.int .u64 ((nsl N n : Nat) : Int), .int .i64 (unixZ (vl Z n 0) (vl Z n 1) (vl Z n 2) (vl Z n 3) (vl Z n 4) (vl Z n 5) + 62135596800), .pointer none], .nilIface]) ?_ rfl ⟨rfl, ?_⟩
        · simp [results, Tryz.results19, go_sem, rc0, rc1, rc2]
        exact (by go_grown; exact HB2.out)
      · obtain rfl : k = 8 := by omega
        go_wp2_with fail
        with_reducible refine (HD.out _ hcr.out hzr.out hlr).mono ?_
        rintro e w2 ⟨rfl, hb2⟩
        have r0 := (hb2.block w.heap.size (by have := HR.out.size; omega)).trans HR.out.res
        have rc0 : w2.cell? ⟨w.heap.size, 0, none⟩ = some (.int .u64 0) := cell_of_row _ _ 0 _ _ (0, 0) r0
        have rc1 : w2.cell? ⟨w.heap.size, 1, none⟩ = some (.int .i64 0) := cell_of_row _ _ 1 _ _ (0, 0) r0
        have rc2 : w2.cell? ⟨w.heap.size, 2, none⟩ = some (.pointer none) := cell_of_row _ _ 2 _ _ (0, 0) r0
        have rf : ∀ o, w2.frozen? ⟨w.heap.size, o, none⟩ = false := fun o => by simp [World.frozen?, r0]
        have HB2 := Lib.hid (HR.out.below.trans (hb2.mono HR.out.below.size))
        clear hb2 r0
        go_wp2
        refine bodyPost_ret (v := .tuple #[.agg #[.int .u64 ((nsl N 8 : Nat) : Int), .int .i64 (unixZ (vl Z 8 0) (vl Z 8 1) (vl Z 8 2) (vl Z 8 3) (vl Z 8 4) (vl Z 8 5) + 62135596800), .pointer none], .nilIface]) ?_ rfl ⟨rfl, ?_⟩
        · simp [results, Tryz.results19, go_sem, rc0, rc1, rc2]
        exact (by go_grown; exact HB2.out)
end Go.Proofs.YtonbnmpleecegaaGreatDoor
