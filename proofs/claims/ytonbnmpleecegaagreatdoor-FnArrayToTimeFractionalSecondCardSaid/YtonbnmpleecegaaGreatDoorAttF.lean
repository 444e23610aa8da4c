/- Contract: arrayToTime where a place of the row holds a text. -/
import Derived.Test.YtonbnmpleecegaaGreatDoorAttP
namespace Go.Proofs.YtonbnmpleecegaaGreatDoor
open Go.RowKit Go.Deep

/-- A place that holds a text ends the call. -/
@[go_sem] theorem mk_tae (x : Value) (w : World) : (Instr.makeInterface 59 x).run Tryz.prog w = .ok (.iface 59 x) w := run_makeInterface w _ x (by kernel_rfl)
def AttFail (W : World) (e : Ending) (w' : World) : Prop := (∃ x, e = .returned (.tuple #[.agg #[.int .u64 0, .int .i64 0, .pointer none], .iface 59 x])) ∧ Below W.heap.size W w'
set_option maxRecDepth 100000 in
set_option maxHeartbeats 4000000 in
theorem att_fail (F : Nat → Value) (Z : Nat → Int) (N n m : Nat) (hm1 : m < n) (hm2 : m < 8) (hF : ∀ j, j < m → j ≠ 5 → F j = .iface 3 (.int .i64 (Z j))) (h5 : 5 < m → SecOk (F 5) (Z 5) N) (tx : Value) (hx : F m = .iface 9 tx)
    (v : Value) (lb : Nat) (w : World) (hv : Cells.At w v F n) :
    Calls Tryz.prog 19 #[v, .pointer (some ⟨lb, 0, none⟩)] w (AttFail w) := by
  have HX := Lib.hid hx
  clear hx
  obtain ⟨a, cap, rfl, hcc⟩ := hv
  have HC := Lib.hid hcc
  have HF := Lib.hid hF
  have H5 := Lib.hid h5
  clear hcc hF h5
  go_enter Tryz.func19, Tryz.ntmps19
  go_wp2
  go_loopw [24, 13] (fun i ns wr => ∃ k : Nat, k ≤ m ∧ i = .int .i64 k ∧ ns = .int .i64 ((nsl N k : Nat) : Int) ∧ Hid (Vars Z k w.heap.size w wr)) (fun i _ _ => 8 - (intOf i).toNat)
  case atStart => exact ⟨0, Nat.zero_le _, rfl, rfl, Lib.hid (vars_start w Z)⟩
  case round =>
    obtain ⟨k, hk, rfl, rfl, HR⟩ := hrel
    by_cases hlt : k < m
    · obtain ⟨b, off, hx, hbl, hcell⟩ := HC.out (by omega)
      cases hx
      have hcx : wr.cell? ⟨b, off + k, none⟩ = some (F k) := (HR.out.below.cell (p := ⟨b, off + k, none⟩) hbl).trans (hcell k (by omega))
      have hpx : wr.cell? ⟨w.heap.size + 1 + 1 + 1 + 1 + 1 + 1 + 1 + 1 + 1 + 1, k, none⟩ = some (.pointer (some ⟨w.heap.size + 2 + k, 0, none⟩)) := HR.out.ptr k (by omega)
      have hvx := cell_of_one (HR.out.var k (by omega))
      have hfx := free_of_one (HR.out.var k (by omega))
      clear hcell
      by_cases h5k : k = 5
      · subst h5k
        obtain ⟨x, fl, r1, r2, f1, f2, f3, f4, f5, f6⟩ := H5.out hlt
        have k1 := fun w => run_convert_float_int (P := Tryz.prog) w 25 3 .f64 .i64 x (Z 5) (by kernel_rfl) Tryz.underlying3 f3
        have k2 := fun w => run_float_arith (P := Tryz.prog) w .sub 25 .f64 x fl r1 f4
        have k3 := fun w => run_float_arith (P := Tryz.prog) w .mul 25 .f64 r1 4741671816366391296 r2 f5
        have k4 := fun w => run_convert_float_int (P := Tryz.prog) w 25 3 .f64 .i64 r2 (N : Int) (by kernel_rfl) Tryz.underlying3 f6
        have G1 := Lib.hid f1
        have G2 := Lib.hid f2
        clear f1 f2 f3 f4 f5 f6
        go_wp2_with (first | (go_at_call 31; with_reducible refine (G1.out _).mono ?_; rintro e w' ⟨rfl, rfl⟩) | (go_at_call 32; with_reducible refine (G2.out _).mono ?_; rintro e w' ⟨rfl, rfl⟩))
        go_roundw
        case rel => exact ⟨6, by omega, rfl, rfl, Lib.hid (HR.out.store (by omega) _ rfl)⟩
        case measure => simp [intOf]
      · have hFk := HF.out k hlt h5k
        rw [hFk] at hcx
        have t5 : ((k : Int) == 5) = false := by simp; omega
        have hns : Hid (nsl N k = nsl N (k + 1)) := Lib.hid (by unfold nsl; by_cases c : 5 < k; rw [if_pos c, if_pos (by omega)]; rw [if_neg c, if_neg (by omega)])
        clear hFk
        go_wp2_with (go_at_call 33; with_reducible refine (toInt_i (Z k) _).mono ?_; rintro e w' ⟨rfl, rfl⟩)
        go_roundw
        case rel => exact ⟨k + 1, by omega, by go_num, by rw [hns.out], Lib.hid (HR.out.store (by omega) _ rfl)⟩
        case measure => simp [intOf]; omega
    · obtain rfl : k = m := by omega
      obtain ⟨b, off, hx, hbl, hcell⟩ := HC.out (by omega)
      cases hx
      have hcx : wr.cell? ⟨b, off + k, none⟩ = some (.iface 9 tx) := by
        rw [← HX.out]
        exact (HR.out.below.cell (p := ⟨b, off + k, none⟩) hbl).trans (hcell k (by omega))
      have hpx : wr.cell? ⟨w.heap.size + 1 + 1 + 1 + 1 + 1 + 1 + 1 + 1 + 1 + 1, k, none⟩ = some (.pointer (some ⟨w.heap.size + 2 + k, 0, none⟩)) := HR.out.ptr k (by omega)
      have t0 : wr.cell? ⟨w.heap.size + 1, 0, none⟩ = some (.int .u64 0) := cell_of_row _ _ 0 _ _ (0, 0) HR.out.tim
      have t1 : wr.cell? ⟨w.heap.size + 1, 1, none⟩ = some (.int .i64 0) := cell_of_row _ _ 1 _ _ (0, 0) HR.out.tim
      have t2 : wr.cell? ⟨w.heap.size + 1, 2, none⟩ = some (.pointer none) := cell_of_row _ _ 2 _ _ (0, 0) HR.out.tim
      have r0 := HR.out.res
      have rc0 : wr.cell? ⟨w.heap.size, 0, none⟩ = some (.int .u64 0) := cell_of_row _ _ 0 _ _ (0, 0) r0
      have rc1 : wr.cell? ⟨w.heap.size, 1, none⟩ = some (.int .i64 0) := cell_of_row _ _ 1 _ _ (0, 0) r0
      have rc2 : wr.cell? ⟨w.heap.size, 2, none⟩ = some (.pointer none) := cell_of_row _ _ 2 _ _ (0, 0) r0
      have rf : ∀ o, wr.frozen? ⟨w.heap.size, o, none⟩ = false := fun o => by simp [World.frozen?, r0]
      have hsz : w.heap.size < wr.heap.size := by have := HR.out.size; omega
      have hne : ¬ w.heap.size = wr.heap.size := by omega
      have HB2 := Lib.hid HR.out.below
      clear r0 hcell
      by_cases h5k : k = 5
      · subst h5k
        go_wp2_with (go_at_call 31; with_reducible refine (toFloat_s tx _).mono ?_; rintro e w' ⟨rfl, rfl⟩)
        refine bodyPost_ret (v := .tuple #[.agg #[.int .u64 0, .int .i64 0, .pointer none], .iface 59 (.pointer (some ⟨wr.heap.size, 0, none⟩))]) ?_ rfl ⟨⟨_, rfl⟩, ?_⟩
        · simp [results, Tryz.results19, go_sem, rc0, rc1, rc2, hne, World.cell?_alloc_old]
        exact (by go_grown; exact HB2.out)
      · have t5 : ((k : Int) == 5) = false := by simp; omega
        go_wp2_with (go_at_call 33; with_reducible refine (toInt_s tx _).mono ?_; rintro e w' ⟨rfl, rfl⟩)
        refine bodyPost_ret (v := .tuple #[.agg #[.int .u64 0, .int .i64 0, .pointer none], .iface 59 (.pointer (some ⟨wr.heap.size, 0, none⟩))]) ?_ rfl ⟨⟨_, rfl⟩, ?_⟩
        · simp [results, Tryz.results19, go_sem, rc0, rc1, rc2, hne, World.cell?_alloc_old]
        exact (by go_grown; exact HB2.out)
end Go.Proofs.YtonbnmpleecegaaGreatDoor
