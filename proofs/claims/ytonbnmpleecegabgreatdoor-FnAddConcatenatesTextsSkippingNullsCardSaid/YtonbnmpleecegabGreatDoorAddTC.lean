/- Contracts: zzOut at a text; ZZAddStrings. -/
import Derived.Test.YtonbnmpleecegabGreatDoorAddTA
import Derived.Test.YtonbnmpleecegabGreatDoorAddTB
import Derived.Test.YtonbnmpleecegabGreatDoorAddZ
namespace Go.Proofs.YtonbnmpleecegabGreatDoor
open Go.RowKit Go.Deep

theorem zzout_str (s : ByteArray) (W : World) : Calls Tryz.prog 13 #[.iface 9 (.string s)] W fun e w' => e = .returned (.agg #[.int .i64 5, .bool false, .int .i64 0, .float .f64 0, .string s, .slice none 0 0, .bool false]) ∧ Below W.heap.size W w' := by
  go_enter Tryz.func13, Tryz.ntmps13
  go_wp2
  refine bodyPost_ret (v := .agg #[.int .i64 5, .bool false, .int .i64 0, .float .f64 0, .string s, .slice none 0 0, .bool false]) ?_ rfl ⟨rfl, ?_⟩
  · simp [results, Tryz.results13, go_sem]
    try rfl
  · go_grown
def Sizes (ss : List ByteArray) : Prop := ∀ j, (ss.getD j ByteArray.empty).size ≤ 1048576
def txtOf (ss : List ByteArray) (bs : List Bool) (h : Sizes ss) (j : Nat) : Txt :=
  ⟨if bs.getD j false then none else some (ss.getD j ByteArray.empty), fun s hs => by
    cases hb : bs.getD j false with
    | true => rw [hb] at hs; cases hs
    | false => rw [hb] at hs; cases hs; exact h j⟩
theorem txt_null (ss : List ByteArray) (bs : List Bool) (h : Sizes ss) (j : Nat) (hb : bs.getD j false = true) : encT (txtOf ss bs h j) = .nilIface := by
  unfold encT txtOf
  simp only [hb, if_true]
theorem txt_some (ss : List ByteArray) (bs : List Bool) (h : Sizes ss) (j : Nat) (hb : bs.getD j false = false) : encT (txtOf ss bs h j) = .iface 9 (.string (ss.getD j ByteArray.empty)) := by
  unfold encT txtOf
  simp only [hb, Bool.false_eq_true, if_false]
/-- Behind k rounds: the result's place, the row. -/
def VT (T : Nat → Txt) (n k : Nat) (W wr : World) : Prop :=
  Below W.heap.size W wr ∧ W.heap.size + 2 ≤ wr.heap.size ∧ wr.heap[W.heap.size]? = some (.cells #[.int .i64 0, .bool false, .int .i64 0, .float .f64 0, .string ByteArray.empty, .slice none 0 0, .bool false] 28 (0, 0)) ∧
    wr.rowIs (W.heap.size + 1) 20 n (Cells.fill (fun j => encT (T j)) .nilIface k)
theorem VT.set {T : Nat → Txt} {n k : Nat} {W wr : World} (h : VT T n k W wr) (x : Value) (hx : x = encT (T k)) : VT T n (k + 1) W (wr.setCell ⟨W.heap.size + 1, k, none⟩ x) := by
  obtain ⟨h1, h2, h3, h4⟩ := h
  refine ⟨h1.setCell (by simp) _, by simpa using h2, ?_, Cells.fill_set h4 x hx⟩
  rw [← h3]; exact heap_setCell_other _ _ _ _ (by simp)
theorem VT.null {T : Nat → Txt} {n k : Nat} {W wr : World} (h : VT T n k W wr) (hx : encT (T k) = .nilIface) : VT T n (k + 1) W wr := by
  obtain ⟨h1, h2, h3, h4⟩ := h
  refine ⟨h1, h2, h3, h4.congr fun j _ => ?_⟩
  unfold Cells.fill
  by_cases c : j < k
  · rw [if_pos c, if_pos (by omega)]
  · rw [if_neg c]
    by_cases c2 : j < k + 1
    · rw [if_pos c2]
      obtain rfl : j = k := by omega
      exact hx.symm
    · rw [if_neg c2]
theorem VT.drew {T : Nat → Txt} {n k : Nat} {W wr : World} (h : VT T n k W wr) (d : Nat) : VT T n k W (wr.drewN d) := ⟨below_dN h.1 d, h.2.1, h.2.2.1, h.2.2.2⟩
def OutT (xs : List Txt) (e : Ending) : Prop :=
  (someB xs = false ∧ e = .returned (.agg #[.int .i64 0, .bool false, .int .i64 0, .float .f64 0, .string ByteArray.empty, .slice none 0 0, .bool false])) ∨ (someB xs = true ∧ e = .returned (.agg #[.int .i64 5, .bool false, .int .i64 0, .float .f64 0, .string ⟨(accB xs).toArray⟩, .slice none 0 0, .bool false]))
set_option maxRecDepth 100000 in
set_option maxHeartbeats 8000000 in
theorem zzadd_txt (ss : List ByteArray) (bs : List Bool) (hsz : Sizes ss) (n m : Nat) (hl : n ≤ 65536) (hml : m ≤ 65536) (hm : bs.length = m) (v1 v2 : Value) (W : World) (hv1 : Cells.At W v1 (StrF ss) n) (hv2 : Cells.At W v2 (BoolF bs) m) :
    Calls Tryz.prog 11 #[v1, v2] W fun e w' => OutT (upto (txtOf ss bs hsz) n) e ∧ Below W.heap.size W w' := by
  have HM := Lib.hid hm
  clear hm
  obtain ⟨a, cap, rfl, hcc⟩ := hv1
  obtain ⟨a2, cap2, rfl, hcc2⟩ := hv2
  have HC := Lib.hid hcc
  have HC2 := Lib.hid hcc2
  clear hcc hcc2
  have hmk := fun w => run_make_row' (P := Tryz.prog) 38 20 .nilIface 16 Tryz.underlying38 info_anyI rfl .i64 .i64 n (by omega) (by omega) w
  have HS : Hid (VT (txtOf ss bs hsz) n 0 W ((W.alloc (.cells #[.int .i64 0, .bool false, .int .i64 0, .float .f64 0, .string ByteArray.empty, .slice none 0 0, .bool false] 28)).alloc (.cells (madeCells #[.nilIface] n) 20))) := Lib.hid
    ⟨((Below.refl _ W).alloc (Nat.le_refl _) _).alloc (by simp) _, by simp, (Go.Deep.blk_alloc_lt _ _ _ (by simp)).trans (heap_alloc_new _ _), by
      have := World.rowIs_made (W.alloc (.cells #[.int .i64 0, .bool false, .int .i64 0, .float .f64 0, .string ByteArray.empty, .slice none 0 0, .bool false] 28)) .nilIface n 20
      rw [Go.Deep.nblk_alloc] at this
      exact Cells.fill_start this⟩
  go_enter Tryz.func11, Tryz.ntmps11
  go_wp2
  clear hmk
  go_loopw [12] (fun i wr => ∃ k : Nat, k ≤ n ∧ i = .int .i64 k ∧ Hid (VT (txtOf ss bs hsz) n k W wr)) (fun i _ => n - (intOf i).toNat)
  case atStart => exact ⟨0, Nat.zero_le _, rfl, HS⟩
  case round =>
    obtain ⟨k, hk, rfl, HR⟩ := hrel
    by_cases hlt : k < n
    · obtain ⟨b, off, hx, hbl, hcell⟩ := HC.out (by omega)
      cases hx
      have hcx0 : wr.cell? ⟨b, off + k, none⟩ = some (StrF ss k) := (HR.out.1.cell (p := ⟨b, off + k, none⟩) hbl).trans (hcell k hlt)
      obtain ⟨s, hs⟩ : ∃ s, ss.getD k ByteArray.empty = s := ⟨_, rfl⟩
      have hcx : wr.cell? ⟨b, off + k, none⟩ = some (.string s) := by rw [hcx0, ← hs]; rfl
      obtain ⟨q, hq⟩ : ∃ q, bs.getD k false = q := ⟨_, rfl⟩
      have HNULL : Hid (q = true → VT (txtOf ss bs hsz) n (k + 1) W wr) := Lib.hid fun h => HR.out.null (txt_null ss bs hsz k (by rw [hq, h]))
      have HSOME : Hid (q = false → VT (txtOf ss bs hsz) n (k + 1) W (wr.setCell ⟨W.heap.size + 1, k, none⟩ (.iface 9 (.string s)))) := Lib.hid fun h => HR.out.set _ (by rw [txt_some ss bs hsz k (by rw [hq, h]), hs])
      have hco := Cells.fill_old HR.out.2.2.2 hlt (Nat.lt_irrefl _)
      have hfo := HR.out.2.2.2.frozen k
      by_cases hkm : k < m
      · obtain ⟨b2, off2, hx2, hbl2, hcell2⟩ := HC2.out (by omega)
        cases hx2
        have hcb0 : wr.cell? ⟨b2, off2 + k, none⟩ = some (BoolF bs k) := (HR.out.1.cell (p := ⟨b2, off2 + k, none⟩) hbl2).trans (hcell2 k hkm)
        have hcb : wr.cell? ⟨b2, off2 + k, none⟩ = some (.bool q) := by rw [hcb0, ← hq]; rfl
        clear hcell hcx0 hcell2 hcb0 hs hq
        cases q with
        | true =>
          go_wp2
          go_roundw
          case rel => exact ⟨k + 1, by omega, by go_num, Lib.hid (HNULL.out rfl)⟩
          case measure => simp [intOf]; omega
        | false =>
          go_wp2
          go_roundw
          case rel => exact ⟨k + 1, by omega, by go_num, Lib.hid (HSOME.out rfl)⟩
          case measure => simp [intOf]; omega
      · have hqf : q = false := by rw [← hq, List.getD_eq_getElem?_getD, List.getElem?_eq_none (by rw [HM.out]; omega)]; rfl
        clear hcell hcx0 hs hq
        subst hqf
        go_wp2
        go_roundw
        case rel => exact ⟨k + 1, by omega, by go_num, Lib.hid (HSOME.out rfl)⟩
        case measure => simp [intOf]; omega
    · obtain rfl : k = n := by omega
      have hle : W.heap.size + 2 ≤ wr.heap.size := HR.out.2.1
      obtain ⟨T, hT⟩ : ∃ T, txtOf ss bs hsz = T := ⟨_, rfl⟩
      rw [hT] at HR
      have HENC : Hid (∀ j, j < k → wr.cell? ⟨W.heap.size + 1, 0 + j, none⟩ = some (encT (T j))) := Lib.hid fun j hj => by
        rw [Nat.zero_add]
        exact Cells.fill_cell HR.out.2.2.2 hj hj
      rw [hT]
      go_wp2_with fail
      refine (callsIn_wide.1 (values_in Fence.wide 3 trivial rfl _ _ _ _)).mono ?_
      rintro e w1 ⟨rfl, rfl⟩
      have hb1 : Below wr.heap.size wr (wr.alloc (.cells #[.slice (some ⟨W.heap.size + 1, 0, none⟩) k k] 38)) := (Below.refl _ _).alloc (Nat.le_refl _) _
      have hadd := callsIn_wide.1 (add_txt_in 3 k (by omega) (by omega) (wr.alloc (.cells #[.slice (some ⟨W.heap.size + 1, 0, none⟩) k k] 38)) T wr.heap.size (W.heap.size + 1) 0 k
        (by rw [World.cell?_alloc_new]; rfl) (by rw [Go.Deep.nblk_alloc]; omega) (by rw [Go.Deep.nblk_alloc]; omega) (fun j hj => (hb1.cell (p := ⟨W.heap.size + 1, 0 + j, none⟩) (by simp; omega)).trans (HENC.out j hj)))
      have HADD := Lib.hid hadd
      clear hadd
      go_wp2_with fail
      refine HADD.out.mono ?_
      rintro e w2 ⟨v2, rfl, hacc, hb2⟩
      have HB2 := Lib.hid (HR.out.1.trans ((hb1.trans (hb2.mono (by rw [Go.Deep.nblk_alloc]; omega))).mono (by omega)))
      have hr0 := (hb2.block W.heap.size (by rw [Go.Deep.nblk_alloc]; omega)).trans ((hb1.block W.heap.size (by omega)).trans HR.out.2.2.1)
      have HR0 := Lib.hid hr0
      have hz2 : W.heap.size < w2.heap.size := (Array.getElem?_eq_some_iff.1 hr0).1
      clear hb2 hr0 hb1
      rcases hacc with ⟨h0, rfl⟩ | ⟨h0, rfl⟩
      · go_wp2_with fail
        refine (zzout_nil _).mono ?_
        rintro e w3 ⟨rfl, hb3⟩
        have hr3 := (hb3.block W.heap.size hz2).trans HR0.out
        have rc0 : w3.cell? ⟨W.heap.size, 0, none⟩ = some (.int .i64 0) := cell_of_row _ _ 0 _ _ (0, 0) hr3
        have rc1 : w3.cell? ⟨W.heap.size, 1, none⟩ = some (.bool false) := cell_of_row _ _ 1 _ _ (0, 0) hr3
        have rc2 : w3.cell? ⟨W.heap.size, 2, none⟩ = some (.int .i64 0) := cell_of_row _ _ 2 _ _ (0, 0) hr3
        have rc3 : w3.cell? ⟨W.heap.size, 3, none⟩ = some (.float .f64 0) := cell_of_row _ _ 3 _ _ (0, 0) hr3
        have rc4 : w3.cell? ⟨W.heap.size, 4, none⟩ = some (.string ByteArray.empty) := cell_of_row _ _ 4 _ _ (0, 0) hr3
        have rc5 : w3.cell? ⟨W.heap.size, 5, none⟩ = some (.slice none 0 0) := cell_of_row _ _ 5 _ _ (0, 0) hr3
        have rc6 : w3.cell? ⟨W.heap.size, 6, none⟩ = some (.bool false) := cell_of_row _ _ 6 _ _ (0, 0) hr3
        have rf : ∀ o, w3.frozen? ⟨W.heap.size, o, none⟩ = false := fun o => by simp [World.frozen?, show w3.heap[W.heap.size]? = _ from hr3]
        have HB3 := Lib.hid (HB2.out.trans (hb3.mono HB2.out.size))
        clear hb3 hr3
        go_wp2
        refine bodyPost_ret (v := .agg #[.int .i64 0, .bool false, .int .i64 0, .float .f64 0, .string ByteArray.empty, .slice none 0 0, .bool false]) ?_ rfl ⟨.inl ⟨by rw [hT]; exact h0, rfl⟩, ?_⟩
        · simp [results, Tryz.results11, go_sem, rc0, rc1, rc2, rc3, rc4, rc5, rc6]
          try rfl
        · go_grown
          exact HB3.out
      · obtain ⟨t, ht⟩ : ∃ t : ByteArray, ⟨(accB (upto T k)).toArray⟩ = t := ⟨_, rfl⟩
        have HT := Lib.hid ht
        rw [ht]
        clear ht
        go_wp2_with fail
        refine (zzout_str t _).mono ?_
        rintro e w3 ⟨rfl, hb3⟩
        have hr3 := (hb3.block W.heap.size hz2).trans HR0.out
        have rc0 : w3.cell? ⟨W.heap.size, 0, none⟩ = some (.int .i64 0) := cell_of_row _ _ 0 _ _ (0, 0) hr3
        have rc1 : w3.cell? ⟨W.heap.size, 1, none⟩ = some (.bool false) := cell_of_row _ _ 1 _ _ (0, 0) hr3
        have rc2 : w3.cell? ⟨W.heap.size, 2, none⟩ = some (.int .i64 0) := cell_of_row _ _ 2 _ _ (0, 0) hr3
        have rc3 : w3.cell? ⟨W.heap.size, 3, none⟩ = some (.float .f64 0) := cell_of_row _ _ 3 _ _ (0, 0) hr3
        have rc4 : w3.cell? ⟨W.heap.size, 4, none⟩ = some (.string ByteArray.empty) := cell_of_row _ _ 4 _ _ (0, 0) hr3
        have rc5 : w3.cell? ⟨W.heap.size, 5, none⟩ = some (.slice none 0 0) := cell_of_row _ _ 5 _ _ (0, 0) hr3
        have rc6 : w3.cell? ⟨W.heap.size, 6, none⟩ = some (.bool false) := cell_of_row _ _ 6 _ _ (0, 0) hr3
        have rf : ∀ o, w3.frozen? ⟨W.heap.size, o, none⟩ = false := fun o => by simp [World.frozen?, show w3.heap[W.heap.size]? = _ from hr3]
        have HB3 := Lib.hid (HB2.out.trans (hb3.mono HB2.out.size))
        clear hb3 hr3
        go_wp2
        refine bodyPost_ret (v := .agg #[.int .i64 5, .bool false, .int .i64 0, .float .f64 0, .string t, .slice none 0 0, .bool false]) ?_ rfl ⟨.inr ⟨by rw [hT]; exact h0, by rw [hT, HT.out]⟩, ?_⟩
        · simp [results, Tryz.results11, go_sem, rc0, rc1, rc2, rc3, rc4, rc5, rc6]
          try rfl
        · go_grown
          exact HB3.out
end Go.Proofs.YtonbnmpleecegabGreatDoor
