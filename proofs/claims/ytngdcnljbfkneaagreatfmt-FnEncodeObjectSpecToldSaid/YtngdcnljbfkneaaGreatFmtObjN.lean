/- Contract: encodeObject at a nil map. -/
import Derived.Test.YtngdcnljbfkneaaGreatFmtObjB
namespace Go.Proofs.YtngdcnljbfkneaaGreatFmt
open Go.RowKit Go.Deep Go.Lib Go.Sort Go.ObjP Go.Shelf

theorem run_make20 (w : World) : (Instr.makeSlice 53 (.int .i64 0) (.int .i64 0)).run Tryz.prog w = .ok (.slice (some ⟨w.heap.size, 0, none⟩) 0 0) (w.alloc (.cells #[] 55)) := by
  have h := run_make2 w 0 (by omega)
  rw [show madeCells #[.string ByteArray.empty, .nilIface] (0 * 2) = #[] from by simp [madeCells]] at h
  exact h
set_option maxRecDepth 100000 in
set_option maxHeartbeats 4000000 in
theorem encodeObject_nil (B b eb : Nat) (W : World) (hB : B ≤ W.heap.size) (hne : eb ≠ b) (h : EncAt B b eb [] W W) :
    Calls Tryz.prog 16 #[.pointer (some ⟨eb, 0, none⟩), .map none] W fun e w' => e = .returned (.tuple #[]) ∧ EncAt B b eb (objL []) W w' := by
  have H0 := Lib.hid (encAt_byte h 123 123 rfl (by decide) hB hne)
  have hw0 := h.2.1.writer
  have hmk := run_make20
  have hln := fun (w : World) ty => Go.Maps.len_nil (P := Tryz.prog) (w := w) Tryz.underlying36 ty
  have hrg := fun w => run_range_nilMap (P := Tryz.prog) w 36 9 20 Tryz.underlying36
  have hmi := fun x w => run_makeInterface (P := Tryz.prog) w 53 x (by kernel_rfl)
  clear h
  go_enter Tryz.func16, Tryz.ntmps16
  go_wp2_with (go_at_call 256; refine H0.out.mono ?_; rintro e w1 ⟨rfl, h1⟩; have H1 := Lib.hid h1; clear h1)
  have hnx := fun ty => run_next_nilMap (P := Tryz.prog) ((w1.alloc (.cells #[] 55)).alloc (.cells #[.slice (some ⟨w1.heap.size, 0, none⟩) 0 0] 53)) ty 0 0 #[]
  have h0 : (w1.alloc (.cells #[] 55)).heap[w1.heap.size]? = some (.cells #[] 55 (0, 0)) := heap_alloc_new _ _
  have h1 : ((w1.alloc (.cells #[] 55)).alloc (.cells #[.slice (some ⟨w1.heap.size, 0, none⟩) 0 0] 53)).heap[w1.heap.size + 1]? = some (.cells #[.slice (some ⟨w1.heap.size, 0, none⟩) 0 0] 53 (0, 0)) := by
    rw [← Go.Deep.nblk_alloc w1 (.cells #[] 55)]
    exact heap_alloc_new _ _
  have hsz : ((w1.alloc (.cells #[] 55)).alloc (.cells #[.slice (some ⟨w1.heap.size, 0, none⟩) 0 0] 53)).heap.size = w1.heap.size + 1 + 1 := by rw [Go.Deep.nblk_alloc, Go.Deep.nblk_alloc]
  rw [hsz] at hnx
  obtain ⟨wz, hwz⟩ : ∃ wz, ((w1.alloc (.cells #[] 55)).alloc (.cells #[.slice (some ⟨w1.heap.size, 0, none⟩) 0 0] 53)).alloc (.mapIter none 0 #[] 0) = wz := ⟨_, rfl⟩
  have hz : wz.heap.size = w1.heap.size + 1 + 1 + 1 := by rw [← hwz, Go.Deep.nblk_alloc, hsz]
  have hb : Below w1.heap.size w1 wz := by
    rw [← hwz]
    exact (((Below.refl _ _).alloc (Nat.le_refl _) _).alloc (by rw [Go.Deep.nblk_alloc]; omega) _).alloc (by rw [hsz]; omega) _
  have hg0 : wz.heap[w1.heap.size]? = some (.cells #[] 55 (0, 0)) := by
    rw [← hwz, Below.heap_alloc _ _ _ (by rw [hsz]; omega), Below.heap_alloc _ _ _ (by rw [Go.Deep.nblk_alloc]; omega)]
    exact h0
  have hg1 : wz.heap[w1.heap.size + 1]? = some (.cells #[.slice (some ⟨w1.heap.size, 0, none⟩) 0 0] 53 (0, 0)) := by
    rw [← hwz, Below.heap_alloc _ _ _ (by rw [hsz]; omega)]
    exact h1
  have hbox : wz.cell? ⟨w1.heap.size + 1, 0, none⟩ = some (.slice (some ⟨w1.heap.size, 0, none⟩) 0 0) := by rw [Lib.cell_of_heap hg1]; rfl
  have HSORT := Lib.hid (sortK_any 0 #[] rfl (by omega) w1.heap.size (w1.heap.size + 1) wz (fun j hj => absurd hj (by simp)) (by rw [hz]; omega) hbox (by rw [hz]; omega) (by omega) ⟨_, _, hg0⟩)
  have HBZ := Lib.hid hb
  have HZZ := Lib.hid hz
  obtain ⟨R, hR⟩ : ∃ R, w1.heap.size = R := ⟨_, rfl⟩
  rw [hwz] at hnx ⊢
  rw [hR] at hnx hbox HSORT HZZ ⊢
  have HRR := Lib.hid hR
  clear hwz hz hb hg0 hg1 hsz h0 h1 hR
  refine wp_loop_rounds 1 ?_
  rw [rounds_succ]
  go_wp2_with (go_at_call 20; refine HSORT.out.mono ?_; rintro e w3 ⟨rfl, d', hd', hp', hs', hh', ho', ht'⟩; have hbox3 : w3.cell? ⟨R + 1, 0, none⟩ = some (.slice (some ⟨R, 0, none⟩) 0 0) := (ho'.cell (p := ⟨R + 1, 0, none⟩) (by rw [HZZ.out]; show R + 1 < R + 1 + 1 + 1; omega) (by simp)).trans hbox)
  have hb3 : Below w1.heap.size w1 w3 := by rw [HRR.out]; exact (HRR.out ▸ HBZ.out).trans (ho'.below (Nat.le_refl _) (by rw [HZZ.out]; omega))
  have HE3 : Hid (EncAt B b eb [123] W w3) := Lib.hid (H1.out.later hb3 hB hne)
  have hw3 := HE3.out.cell
  have HE := Lib.hid (encAt_byte HE3.out 125 125 rfl (by decide) hB hne)
  clear hd' hp' hs' hh' ho' ht' hb3
  refine wp_loop_rounds 1 ?_
  rw [rounds_succ]
  go_wp2_with (go_at_call 256; refine HE.out.mono ?_; rintro e w4 ⟨rfl, h4⟩)
  go_returns
  exact ⟨rfl, h4⟩
end Go.Proofs.YtngdcnljbfkneaaGreatFmt
