/- Contracts: zzOut at null and at a row of ints; ZZAddIntArrays. -/
import Derived.Test.YtonbnmpleecegabGreatDoorAddA
import Derived.Test.YtonbnmpleecegabGreatDoorAddR
namespace Go.Proofs.YtonbnmpleecegabGreatDoor
open Go.RowKit Go.Deep

@[go_sem] theorem run_store_float (P : Program) (w : World) (a : Addr) (m : Mode) (k : FloatKind) (b : Nat) : (store a (.float k b) m).run P w = stored P w a (.float k b) m := run_store P w a _ m rfl
theorem info_int3 : (Tryz.prog.info? 3).map (fun i => (i.zero, i.size, i.bytes)) = some (some (.int .i64 0), 1, 8) := by kernel_rfl
def intCells (zs : List Int) : List Value := zs.map (Value.int .i64)
theorem intCells_len (zs : List Int) : (intCells zs).length = zs.length := by simp [intCells]
theorem intCells_snoc (zs : List Int) (k : Nat) (h : k < zs.length) : intCells (zs.take (k + 1)) = intCells (zs.take k) ++ [.int .i64 (zs.getD k 0)] := by
  unfold intCells
  rw [List.take_add_one, List.getElem?_eq_getElem h, List.map_append]
  simp [List.getD_eq_getElem?_getD, h]
theorem own_at {w : World} {B : Nat} {e : TypeId} {v : Value} {zs : List Int} (h : w.ownsRow B e 1 v zs.length (intCells zs)) : AtFrom B w v (IntF zs) zs.length := by
  rcases h.2 with ⟨rfl, h0⟩ | ⟨g, cap, cur, rfl, hB, hg, hle, _, hsz, hcur⟩
  · exact ⟨none, 0, by rw [h0], fun hp => by omega⟩
  · refine ⟨_, cap, rfl, fun _ => ⟨g, 0, rfl, hB, (Array.getElem?_eq_some_iff.1 hg).1, fun i hi => ?_⟩⟩
    rw [Nat.zero_add, cell_of_row w g i cur e (0, 0) hg]
    have h1 : (intCells zs)[i]? = some (IntF zs i) := by
      unfold intCells IntF
      rw [List.getElem?_map, List.getElem?_eq_getElem hi]
      simp [List.getD_eq_getElem?_getD, hi]
    rw [← hcur, Nat.mul_one, List.getElem?_take_of_lt hi] at h1
    simpa using h1
theorem zzout_nil (W : World) : Calls Tryz.prog 13 #[.nilIface] W fun e w' => e = .returned (.agg #[.int .i64 0, .bool false, .int .i64 0, .float .f64 0, .string ByteArray.empty, .slice none 0 0, .bool false]) ∧ Below W.heap.size W w' := by
  go_enter Tryz.func13, Tryz.ntmps13
  go_wp2
  refine bodyPost_ret (v := .agg #[.int .i64 0, .bool false, .int .i64 0, .float .f64 0, .string ByteArray.empty, .slice none 0 0, .bool false]) ?_ rfl ⟨rfl, ?_⟩
  · simp [results, Tryz.results13, go_sem]; rfl
  · go_grown
set_option maxRecDepth 100000 in
set_option maxHeartbeats 4000000 in
theorem zzout_arr (zs : List Int) (n : Nat) (hn : zs.length = n) (hl : n ≤ 131072) (v : Value) (W : World) (hv : Cells.At W v (anyF zs) n) :
    Calls Tryz.prog 13 #[.iface 38 v] W fun e w' => (∃ sv, e = .returned (.agg #[.int .i64 6, .bool false, .int .i64 0, .float .f64 0, .string ByteArray.empty, sv, .bool true]) ∧ AtFrom (W.heap.size + 1) w' sv (IntF zs) n) ∧ Below W.heap.size W w' := by
  obtain ⟨a, cap, rfl, hcc⟩ := hv
  have HC := Lib.hid hcc
  have HN := Lib.hid hn
  clear hcc hn
  obtain ⟨i0, hi, hz0, hz1, hz2⟩ := info_parts info_int3
  have HS0 : Hid (∀ w', (W.alloc (.cells #[.int .i64 0, .bool false, .int .i64 0, .float .f64 0, .string ByteArray.empty, .slice none 0 0, .bool false] 28)).grownBy w' none → ∀ v', w'.ownsRow (W.heap.size + 1) 3 1 v' 0 [] → Below W.heap.size W w' ∧ w'.heap[W.heap.size]? = some (.cells #[.int .i64 0, .bool false, .int .i64 0, .float .f64 0, .string ByteArray.empty, .slice none 0 0, .bool false] 28 (0, 0)) ∧ w'.ownsRow (W.heap.size + 1) 3 1 v' 0 (intCells (zs.take 0))) := Lib.hid fun w' hg v' ho =>
    ⟨((Below.refl _ W).alloc (Nat.le_refl _) _).grown hg (by simp) (fun k e => by cases e), (hg.block _ (by simp) (by simp)).trans (heap_alloc_new _ _), ho⟩
  go_enter Tryz.func13, Tryz.ntmps13
  go_wp2_with (at_make; refine wpList_make_own _ rfl _ _ 24 rfl (W.heap.size + 1) 3 i0 (.int .i64 0) 1 Tryz.underlying24 hi hz0 hz1 _ _ _ n rfl rfl (by simp) (by rw [hz2]; omega) (by unfold maxLen; omega) (by simp) ?_; intro w0 hown0 hgr0)
  simp only [Go.Deep.nblk_alloc] at hown0
  have HS := Lib.hid (HS0.out _ hgr0 _ hown0)
  clear hown0 hgr0
  go_wp2_with fail
  go_loopw [10, 11, 56] (fun o ok i wr => ∃ k : Nat, k ≤ n ∧ i = .int .i64 k ∧ ok = .bool true ∧ Hid (Below W.heap.size W wr ∧ wr.heap[W.heap.size]? = some (.cells #[.int .i64 0, .bool false, .int .i64 0, .float .f64 0, .string ByteArray.empty, .slice none 0 0, .bool false] 28 (0, 0)) ∧ wr.ownsRow (W.heap.size + 1) 3 1 o k (intCells (zs.take k)))) (fun _ _ i _ => n - (intOf i).toNat)
  case atStart => exact ⟨0, Nat.zero_le _, rfl, rfl, HS⟩
  case round =>
    obtain ⟨k, hk, rfl, rfl, HR⟩ := hrel
    by_cases hlt : k < n
    · obtain ⟨b, off, hx, hbl, hcell⟩ := HC.out (by omega)
      cases hx
      have hcx : wr.cell? ⟨b, off + k, none⟩ = some (.iface 3 (.int .i64 (zs.getD k 0))) := (HR.out.1.cell (p := ⟨b, off + k, none⟩) hbl).trans (hcell k hlt)
      clear hcell
      obtain ⟨z, hz⟩ : ∃ z, zs.getD k 0 = z := ⟨_, rfl⟩
      rw [hz] at hcx
      have HZ2 := Lib.hid hz
      clear hz
      have hsz : W.heap.size + 1 ≤ wr.heap.size := (Array.getElem?_eq_some_iff.1 HR.out.2.1).1
      go_wp2_with (at_builtin; refine wpList_append_own _ rfl _ _ 24 rfl (W.heap.size + 1) 3 i0 (.int .i64 0) 1 8 Tryz.underlying24 hi hz0 hz1 hz2 rfl (by decide) _ _ _ rfl (HR.out.2.2.alloc _) ⟨wr.heap.size, 0, none⟩ 1 1 [.int .i64 z] rfl rfl (cell_one_new _ _ _) (by simp [Value.oneCell']) (by unfold maxLen; omega) (by omega) (by simp; omega) ?_; intro v' w1 hown' hgrow _)
      have HR2 : Hid (Below W.heap.size W w1 ∧ w1.heap[W.heap.size]? = some (.cells #[.int .i64 0, .bool false, .int .i64 0, .float .f64 0, .string ByteArray.empty, .slice none 0 0, .bool false] 28 (0, 0)) ∧ w1.ownsRow (W.heap.size + 1) 3 1 v' (k + 1) (intCells (zs.take (k + 1)))) := Lib.hid ⟨(HR.out.1.alloc HR.out.1.size _).grown hgrow (by have := HR.out.1.size; simp; omega) (fun j e => by have := (HR.out.2.2.lt j e).1; omega),
        (hgrow.block _ (by simp; omega) (fun e => by have := (HR.out.2.2.lt _ e.symm).1; omega)).trans ((Go.Deep.blk_alloc_lt _ _ _ (by omega)).trans HR.out.2.1), by rw [intCells_snoc zs k (by rw [HN.out]; exact hlt), HZ2.out]; exact hown'⟩
      clear hown' hgrow
      go_wp2
      go_roundw
      case rel => exact ⟨k + 1, by omega, by go_num, rfl, HR2⟩
      case measure => simp [intOf]; omega
    · obtain rfl : k = n := by omega
      rename_i o _ _
      have hat := own_at (zs := zs) (by have := HR.out.2.2; rw [List.take_of_length_le (by rw [HN.out]; exact Nat.le_refl _)] at this; rw [HN.out]; exact this)
      rw [HN.out] at hat
      have HAT := Lib.hid hat
      obtain ⟨oa, ocap, rfl, _⟩ := hat
      have r0 := HR.out.2.1
      have rc0 : wr.cell? ⟨W.heap.size, 0, none⟩ = some (.int .i64 0) := cell_of_row _ _ 0 _ _ (0, 0) r0
      have rc1 : wr.cell? ⟨W.heap.size, 1, none⟩ = some (.bool false) := cell_of_row _ _ 1 _ _ (0, 0) r0
      have rc2 : wr.cell? ⟨W.heap.size, 2, none⟩ = some (.int .i64 0) := cell_of_row _ _ 2 _ _ (0, 0) r0
      have rc3 : wr.cell? ⟨W.heap.size, 3, none⟩ = some (.float .f64 0) := cell_of_row _ _ 3 _ _ (0, 0) r0
      have rc4 : wr.cell? ⟨W.heap.size, 4, none⟩ = some (.string ByteArray.empty) := cell_of_row _ _ 4 _ _ (0, 0) r0
      have rc5 : wr.cell? ⟨W.heap.size, 5, none⟩ = some (.slice none 0 0) := cell_of_row _ _ 5 _ _ (0, 0) r0
      have rc6 : wr.cell? ⟨W.heap.size, 6, none⟩ = some (.bool false) := cell_of_row _ _ 6 _ _ (0, 0) r0
      have rf : ∀ o, wr.frozen? ⟨W.heap.size, o, none⟩ = false := fun o => by simp [World.frozen?, show wr.heap[W.heap.size]? = _ from r0]
      have HB := Lib.hid HR.out.1
      clear r0
      go_wp2
      refine bodyPost_ret (v := .agg #[.int .i64 6, .bool false, .int .i64 0, .float .f64 0, .string ByteArray.empty, (.slice oa k ocap), .bool true]) ?_ rfl ⟨⟨_, rfl, ?_⟩, ?_⟩
      · simp [results, Tryz.results13, go_sem, rc0, rc1, rc2, rc3, rc4, rc5, rc6]
        try rfl
      · exact (((((((HAT.out.set ⟨W.heap.size, 0, none⟩ (by simp) _).set ⟨W.heap.size, 1, none⟩ (by simp) _).set ⟨W.heap.size, 2, none⟩ (by simp) _).set ⟨W.heap.size, 3, none⟩ (by simp) _).set ⟨W.heap.size, 4, none⟩ (by simp) _).set ⟨W.heap.size, 5, none⟩ (by simp) _).set ⟨W.heap.size, 6, none⟩ (by simp) _)
      · go_grown
        exact HB.out
end Go.Proofs.YtonbnmpleecegabGreatDoor
