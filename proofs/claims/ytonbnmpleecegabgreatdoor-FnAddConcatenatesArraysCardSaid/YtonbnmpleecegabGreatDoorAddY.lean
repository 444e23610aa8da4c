/- Contract: ZZAddIntArrays. -/
import Derived.Test.YtonbnmpleecegabGreatDoorAddZ
namespace Go.Proofs.YtonbnmpleecegabGreatDoor
open Go.RowKit Go.Deep

def arrV (g m : Nat) : Value := .iface 38 (.slice (some ⟨g, 0, none⟩) m m)
/-- Behind k rounds: the result's place, the outer row, k rows. -/
def VSt (rows : List (List Int)) (n k : Nat) (W wr : World) : Prop :=
  Below W.heap.size W wr ∧ wr.heap.size = W.heap.size + 2 + k ∧ wr.heap[W.heap.size]? = some (.cells #[.int .i64 0, .bool false, .int .i64 0, .float .f64 0, .string ByteArray.empty, .slice none 0 0, .bool false] 28 (0, 0)) ∧
    wr.rowIs (W.heap.size + 1) 20 n (Cells.fill (fun j => arrV (W.heap.size + 2 + j) (rows.getD j []).length) .nilIface k) ∧ ∀ j, j < k → wr.rowIs (W.heap.size + 2 + j) 20 (rows.getD j []).length (anyF (rows.getD j []))
/-- .. and q places of row k, which stands in block g. -/
def VIn (rows : List (List Int)) (n k q g : Nat) (W wr : World) : Prop :=
  g = W.heap.size + 2 + k ∧ Below W.heap.size W wr ∧ wr.heap.size = W.heap.size + 3 + k ∧ wr.heap[W.heap.size]? = some (.cells #[.int .i64 0, .bool false, .int .i64 0, .float .f64 0, .string ByteArray.empty, .slice none 0 0, .bool false] 28 (0, 0)) ∧
    wr.rowIs (W.heap.size + 1) 20 n (Cells.fill (fun j => arrV (W.heap.size + 2 + j) (rows.getD j []).length) .nilIface k) ∧ (∀ j, j < k → wr.rowIs (W.heap.size + 2 + j) 20 (rows.getD j []).length (anyF (rows.getD j []))) ∧
    wr.rowIs g 20 (rows.getD k []).length (Cells.fill (anyF (rows.getD k [])) .nilIface q)
theorem VSt.make {rows : List (List Int)} {n k : Nat} {W wr : World} (h : VSt rows n k W wr) : VIn rows n k 0 wr.heap.size W (wr.alloc (.cells (madeCells #[.nilIface] (rows.getD k []).length) 20)) := by
  obtain ⟨h1, h2, h3, h4, h5⟩ := h
  exact ⟨h2, h1.alloc h1.size _, by rw [Go.Deep.nblk_alloc, h2]; omega, (Go.Deep.blk_alloc_lt _ _ _ (by omega)).trans h3, h4.alloc _, fun j hj => (h5 j hj).alloc _, Cells.fill_start (World.rowIs_made wr _ _ _)⟩
theorem VIn.set {rows : List (List Int)} {n k q g : Nat} {W wr : World} (h : VIn rows n k q g W wr) (x : Value) (hx : x = anyF (rows.getD k []) q) : VIn rows n k (q + 1) g W (wr.setCell ⟨g, q, none⟩ x) := by
  obtain ⟨h0, h1, h2, h3, h4, h5, h6⟩ := h
  refine ⟨h0, h1.setCell (by simp; omega) _, by simpa using h2, ?_, h4.setOther (by simp; omega) _, fun j hj => (h5 j hj).setOther (by simp; omega) _, Cells.fill_set h6 x hx⟩
  rw [← h3]; exact heap_setCell_other _ _ _ _ (by simp; omega)
theorem VIn.done {rows : List (List Int)} {n k g : Nat} {W wr : World} (h : VIn rows n k (rows.getD k []).length g W wr) : VSt rows n (k + 1) W (wr.setCell ⟨W.heap.size + 1, k, none⟩ (arrV g (rows.getD k []).length)) := by
  obtain ⟨h0, h1, h2, h3, h4, h5, h6⟩ := h
  refine ⟨h1.setCell (by simp) _, by simp; omega, ?_, Cells.fill_set h4 _ (by rw [h0]), fun j hj => ?_⟩
  · rw [← h3]; exact heap_setCell_other _ _ _ _ (by simp)
  · by_cases c : j = k
    · subst c
      rw [← h0]
      exact (h6.congr fun i hi => by unfold Cells.fill; rw [if_pos hi]).setOther (by simp; omega) _
    · exact (h5 j (by omega)).setOther (by simp; omega) _
def RowA.up {w w' : World} {M : Nat} (x : RowA w M) (hb : Below w.heap.size w w') : RowA w' M := ⟨x.b, x.zs, Nat.lt_of_lt_of_le x.lt hb.size, x.len, fun i hi => (hb.cell (p := ⟨x.b, i, none⟩) x.lt).trans (x.cells i hi)⟩
theorem accZ_upto {w : World} {M : Nat} (f : Nat → RowA w M) (k : Nat) : accZ (upto f k) = (List.range k).flatMap fun j => (f j).zs := by simp [accZ, upto, List.flatMap_map]
/-- The rows as the iterator hands them out. -/
def rowFn (rows : List (List Int)) (n : Nat) (W wr : World) (h : VSt rows n n W wr) (hl : ∀ j, j < n → (rows.getD j []).length ≤ 131072) (j : Nat) : RowA wr 131072 :=
  if hj : j < n then ⟨W.heap.size + 2 + j, rows.getD j [], by have := h.2.1; omega, hl j hj, fun i hi => (h.2.2.2.2 j hj).cell hi⟩
  else ⟨0, [], by have := h.2.1; omega, by simp, fun i hi => absurd hi (by simp)⟩
theorem rowFn_zs (rows : List (List Int)) (n : Nat) (W wr : World) (h : VSt rows n n W wr) (hl) (j : Nat) (hj : j < n) : (rowFn rows n W wr h hl j).zs = rows.getD j [] := by
  unfold rowFn; rw [dif_pos hj]
theorem rowFn_enc (rows : List (List Int)) (n : Nat) (W wr : World) (h : VSt rows n n W wr) (hl) (j : Nat) (hj : j < n) : encA (rowFn rows n W wr h hl j) = arrV (W.heap.size + 2 + j) (rows.getD j []).length := by
  unfold rowFn encA arrV; rw [dif_pos hj]
theorem accZ_rows (rows : List (List Int)) (n : Nat) (hn : rows.length = n) (W wr : World) (h : VSt rows n n W wr) (hl) : ∀ k, k ≤ n → accZ (upto (rowFn rows n W wr h hl) k) = (rows.take k).flatten
  | 0, _ => by simp [accZ, upto]
  | k + 1, hk => by
    rw [upto_succ, accZ_snoc, accZ_rows rows n hn W wr h hl k (by omega), rowFn_zs rows n W wr h hl k (by omega), List.take_add_one, List.getElem?_eq_getElem (by omega), List.flatten_append]
    simp [List.getD_eq_getElem?_getD, show k < rows.length by omega]
def OutA (rows : List (List Int)) (n : Nat) (e : Ending) (w' : World) : Prop :=
  (n = 0 ∧ e = .returned (.agg #[.int .i64 0, .bool false, .int .i64 0, .float .f64 0, .string ByteArray.empty, .slice none 0 0, .bool false])) ∨ (0 < n ∧ ∃ sv, e = .returned (.agg #[.int .i64 6, .bool false, .int .i64 0, .float .f64 0, .string ByteArray.empty, sv, .bool true]) ∧ Cells.At w' sv (IntF rows.flatten) rows.flatten.length)
theorem own_any {w : World} {B : Nat} {g cap : Nat} {zs : List Int} (h : w.ownsRow B 20 1 (.slice (some ⟨g, 0, none⟩) zs.length cap) zs.length (cellsZ zs)) : Cells.At w (.slice (some ⟨g, 0, none⟩) zs.length cap) (anyF zs) zs.length := by
  rcases h.2 with ⟨h0, _⟩ | ⟨g', cap', cur, h0, hB, hg, hle, _, hsz, hcur⟩
  · cases h0
  · cases h0
    refine ⟨_, cap, rfl, fun _ => ⟨g, 0, rfl, (Array.getElem?_eq_some_iff.1 hg).1, fun i hi => ?_⟩⟩
    rw [Nat.zero_add, cell_of_row w g i cur _ (0, 0) hg]
    have h1 : (cellsZ zs)[i]? = some (anyF zs i) := by
      unfold cellsZ anyF IntF
      rw [List.getElem?_map, List.getElem?_eq_getElem hi]
      simp [List.getD_eq_getElem?_getD, hi]
    rw [← hcur, Nat.mul_one, List.getElem?_take_of_lt hi] at h1
    simpa using h1
theorem flatten_len (rows : List (List Int)) : ∀ (n : Nat), rows.length = n → (∀ j, j < n → (rows.getD j []).length ≤ 131072) → rows.flatten.length ≤ n * 131072 := by
  induction rows with
  | nil => intro n hn _; simp
  | cons r rows ih =>
    intro n hn h
    obtain ⟨m, rfl⟩ : ∃ m, n = m + 1 := ⟨n - 1, by simp at hn; omega⟩
    have h1 := ih m (by simpa using hn) (fun j hj => by simpa using h (j + 1) (by omega))
    have h2 := h 0 (by omega)
    simp only [List.flatten_cons, List.length_append]
    simp at h2
    omega
set_option maxRecDepth 100000 in
set_option maxHeartbeats 8000000 in
theorem zzadd_arr (rows : List (List Int)) (n : Nat) (hn : rows.length = n) (hl : n ≤ 65536) (hfl : rows.flatten.length ≤ 131072) (hrl : ∀ j, j < n → (rows.getD j []).length ≤ 131072) (v : Value) (W : World) (hv0 : RowsAt W v rows) :
    Calls Tryz.prog 7 #[v] W fun e w' => OutA rows n e w' ∧ Below W.heap.size W w' := by
  obtain ⟨R0, hv, hin⟩ := hv0
  rw [hn] at hv hin
  have HIN := Lib.hid hin
  have HRL := Lib.hid hrl
  have HN := Lib.hid hn
  clear hin hrl hn
  obtain ⟨a, cap, rfl, hcc⟩ := hv
  have HC := Lib.hid hcc
  clear hcc
  have hmk := fun w => run_make_row' (P := Tryz.prog) 38 20 .nilIface 16 Tryz.underlying38 info_anyI rfl .i64 .i64 n (by omega) (by omega) w
  have HS : Hid (VSt rows n 0 W ((W.alloc (.cells #[.int .i64 0, .bool false, .int .i64 0, .float .f64 0, .string ByteArray.empty, .slice none 0 0, .bool false] 28)).alloc (.cells (madeCells #[.nilIface] n) 20))) := Lib.hid
    ⟨((Below.refl _ W).alloc (Nat.le_refl _) _).alloc (by simp) _, by simp, (Go.Deep.blk_alloc_lt _ _ _ (by simp)).trans (heap_alloc_new _ _), by
      have := World.rowIs_made (W.alloc (.cells #[.int .i64 0, .bool false, .int .i64 0, .float .f64 0, .string ByteArray.empty, .slice none 0 0, .bool false] 28)) .nilIface n 20
      rw [Go.Deep.nblk_alloc] at this
      exact Cells.fill_start this, fun j hj => absurd hj (Nat.not_lt_zero _)⟩
  go_enter Tryz.func7, Tryz.ntmps7
  go_wp2
  clear hmk
  go_loopw [12] (fun i wr => ∃ k : Nat, k ≤ n ∧ i = .int .i64 k ∧ Hid (VSt rows n k W wr)) (fun i _ => n - (intOf i).toNat)
  case atStart => exact ⟨0, Nat.zero_le _, rfl, HS⟩
  case round =>
    obtain ⟨k, hk, rfl, HR⟩ := hrel
    by_cases hlt : k < n
    · obtain ⟨b, off, hx, hbl, hcell⟩ := HC.out (by omega)
      cases hx
      obtain ⟨m, hm⟩ : ∃ m, (rows.getD k []).length = m := ⟨_, rfl⟩
      have hrow := HIN.out k hlt
      have hml := HRL.out k hlt
      rw [hm] at hrow hml
      obtain ⟨ra, rcap, hR0, hrc⟩ := hrow
      have HRC := Lib.hid hrc
      have HM := Lib.hid hm
      have hcx0 := hcell k hlt
      rw [hR0] at hcx0
      have hcx : wr.cell? ⟨b, off + k, none⟩ = some (.slice ra m rcap) := (HR.out.1.cell (p := ⟨b, off + k, none⟩) hbl).trans hcx0
      have HCX := Lib.hid hcx0
      clear hcell hcx0 hrc hm hR0
      have hmk := fun w => run_make_row' (P := Tryz.prog) 38 20 .nilIface 16 Tryz.underlying38 info_anyI rfl .i64 .i64 m (by omega) (by omega) w
      have HI : Hid (VIn rows n k 0 wr.heap.size W (wr.alloc (.cells (madeCells #[.nilIface] m) 20))) := Lib.hid (by rw [← HM.out]; exact HR.out.make)
      have hcx2 : (wr.alloc (.cells (madeCells #[.nilIface] m) 20)).cell? ⟨b, off + k, none⟩ = some (.slice ra m rcap) := (HI.out.2.1.cell (p := ⟨b, off + k, none⟩) hbl).trans HCX.out
      obtain ⟨G, hG⟩ : ∃ G, wr.heap.size = G := ⟨_, rfl⟩
      obtain ⟨wo, hwo⟩ : ∃ wo : World, wo = wr := ⟨_, rfl⟩
      subst hwo
      rw [hG] at HI
      go_wp2
      clear hcx hcx2 hmk
      go_loopw [26] (fun q wi => ∃ p : Nat, p ≤ m ∧ q = .int .i64 p ∧ Hid (VIn rows n k p G W wi)) (fun q _ => m - (intOf q).toNat)
      case atStart => exact ⟨0, Nat.zero_le _, rfl, HI⟩
      case round =>
        obtain ⟨p, hp, rfl, HP⟩ := hrel
        have hcx : wr.cell? ⟨b, off + k, none⟩ = some (.slice ra m rcap) := (HP.out.2.1.cell (p := ⟨b, off + k, none⟩) hbl).trans HCX.out
        by_cases hpm : p < m
        · obtain ⟨rb, ro, hra, hrl, hrcell⟩ := HRC.out (by omega)
          subst hra
          have hcz : wr.cell? ⟨rb, ro + p, none⟩ = some (.int .i64 ((rows.getD k []).getD p 0)) := (HP.out.2.1.cell (p := ⟨rb, ro + p, none⟩) hrl).trans (hrcell p hpm)
          obtain ⟨z, hz⟩ : ∃ z, (rows.getD k []).getD p 0 = z := ⟨_, rfl⟩
          rw [hz] at hcz
          have HZ2 := Lib.hid hz
          have hco := Cells.fill_old HP.out.2.2.2.2.2.2 (by rw [HM.out]; exact hpm) (Nat.lt_irrefl _)
          have hfo := HP.out.2.2.2.2.2.2.frozen p
          clear hrcell hz
          go_wp2
          go_roundw
          case rel => exact ⟨p + 1, by omega, by go_num, Lib.hid (HP.out.set _ (by unfold anyF IntF; rw [HZ2.out]))⟩
          case measure => simp [intOf]; omega
        · obtain rfl : p = m := by omega
          have hco := Cells.fill_old HP.out.2.2.2.2.1 hlt (Nat.lt_irrefl _)
          have hfo := HP.out.2.2.2.2.1.frozen k
          have HD : Hid (VSt rows n (k + 1) W (wr.setCell ⟨W.heap.size + 1, k, none⟩ (.iface 38 (.slice (some ⟨G, 0, none⟩) p p)))) := Lib.hid (by
            have h := HP.out
            rw [← HM.out] at h
            have h2 := h.done
            rw [HM.out] at h2
            exact h2)
          go_wp2
          go_roundw
          case rel => exact ⟨k + 1, by omega, by go_num, HD⟩
          case measure => simp [intOf]; omega
    · obtain rfl : k = n := by omega
      have hle : W.heap.size + 2 ≤ wr.heap.size := by have := HR.out.2.1; omega
      have HFL := Lib.hid hfl
      have HACC := Lib.hid (accZ_rows rows k HN.out W wr HR.out HRL.out k (Nat.le_refl _))
      obtain ⟨fr, hfr⟩ : ∃ fr, rowFn rows k W wr HR.out HRL.out = fr := ⟨_, rfl⟩
      have HENC : Hid (∀ j, j < k → wr.cell? ⟨W.heap.size + 1, 0 + j, none⟩ = some (encA (fr j))) := Lib.hid fun j hj => by
        rw [← hfr, rowFn_enc rows k W wr HR.out HRL.out j hj, Nat.zero_add]
        exact Cells.fill_cell HR.out.2.2.2.1 hj hj
      rw [hfr] at HACC
      clear hfr hfl
      go_wp2_with fail
      refine (callsIn_wide.1 (values_in Fence.wide 3 trivial rfl _ _ _ _)).mono ?_
      rintro e w1 ⟨rfl, rfl⟩
      have hb1 : Below wr.heap.size wr (wr.alloc (.cells #[.slice (some ⟨W.heap.size + 1, 0, none⟩) k k] 38)) := (Below.refl _ _).alloc (Nat.le_refl _) _
      have HB1 := Lib.hid hb1
      have hadd := callsIn_wide.1 (add_arr_in Fence.wide 3 trivial trivial rfl (by omega) 131072 k (by omega) (by omega) (wr.alloc (.cells #[.slice (some ⟨W.heap.size + 1, 0, none⟩) k k] 38)) (fun j => (fr j).up HB1.out) wr.heap.size (W.heap.size + 1) 0 k
        (by rw [World.cell?_alloc_new]; rfl) (by rw [Go.Deep.nblk_alloc]; omega) (by rw [Go.Deep.nblk_alloc]; omega) (fun j hj => (hb1.cell (p := ⟨W.heap.size + 1, 0 + j, none⟩) (by simp; omega)).trans (HENC.out j hj)))
      have HADD := Lib.hid hadd
      clear hadd
      go_wp2_with fail
      refine HADD.out.mono ?_
      rintro e w2 ⟨v2, rfl, hacc, hb2⟩
      have HB2 := Lib.hid (HR.out.1.trans ((hb1.trans (hb2.mono (by rw [Go.Deep.nblk_alloc]; omega))).mono (by omega)))
      have hr0 := (hb2.block W.heap.size (by rw [Go.Deep.nblk_alloc]; omega)).trans ((hb1.block W.heap.size (by omega)).trans HR.out.2.2.1)
      have HR0 := Lib.hid hr0
      have hz2 : W.heap.size < w2.heap.size := (Array.getElem?_eq_some_iff.1 hr0).1
      clear hb2 hr0 hb1
      rcases hacc with ⟨h0, rfl⟩ | ⟨sv, hne, rfl, ⟨g, cp, rfl⟩, hrow⟩
      · have hk0 : k = 0 := by have := congrArg List.length h0; rw [upto_length] at this; simpa using this
        go_wp2_with fail
        refine (zzout_nil _).mono ?_
        rintro e w3 ⟨rfl, hb3⟩
        have hr3 := (hb3.block W.heap.size hz2).trans HR0.out
        have rc0 : w3.cell? ⟨W.heap.size, 0, none⟩ = some (.int .i64 0) := cell_of_row _ _ 0 _ _ (0, 0) hr3
        have rc1 : w3.cell? ⟨W.heap.size, 1, none⟩ = some (.bool false) := cell_of_row _ _ 1 _ _ (0, 0) hr3
        have rc2 : w3.cell? ⟨W.heap.size, 2, none⟩ = some (.int .i64 0) := cell_of_row _ _ 2 _ _ (0, 0) hr3
        have rc3 : w3.cell? ⟨W.heap.size, 3, none⟩ = some (.float .f64 0) := cell_of_row _ _ 3 _ _ (0, 0) hr3
        have rc4 : w3.cell? ⟨W.heap.size, 4, none⟩ = some (.string ByteArray.empty) := cell_of_row _ _ 4 _ _ (0, 0) hr3
        have rc5 : w3.cell? ⟨W.heap.size, 5, none⟩ = some (.slice none 0 0) := cell_of_row _ _ 5 _ _ (0, 0) hr3
        have rc6 : w3.cell? ⟨W.heap.size, 6, none⟩ = some (.bool false) := cell_of_row _ _ 6 _ _ (0, 0) hr3
        have rf : ∀ o, w3.frozen? ⟨W.heap.size, o, none⟩ = false := fun o => by simp [World.frozen?, show w3.heap[W.heap.size]? = _ from hr3]
        have HB3 := Lib.hid (HB2.out.trans (hb3.mono HB2.out.size))
        clear hb3 hr3
        go_wp2
        refine bodyPost_ret (v := .agg #[.int .i64 0, .bool false, .int .i64 0, .float .f64 0, .string ByteArray.empty, .slice none 0 0, .bool false]) ?_ rfl ⟨.inl ⟨hk0, rfl⟩, ?_⟩
        · simp [results, Tryz.results7, go_sem, rc0, rc1, rc2, rc3, rc4, rc5, rc6]
          try rfl
        · go_grown
          exact HB3.out
      · have hkp : 0 < k := by
          rcases Nat.eq_zero_or_pos k with h | h
          · subst h; exact absurd rfl hne
          · exact h
        obtain ⟨zs, hzs⟩ : ∃ zs, accZ (upto (fun j => (fr j).up HB1.out) k) = zs := ⟨_, rfl⟩
        rw [hzs] at hrow
        rw [hzs]
        have HZR : Hid (zs = rows.flatten) := Lib.hid (by
          rw [← hzs, accZ_upto]
          have h := HACC.out
          rw [accZ_upto, List.take_of_length_le (by rw [HN.out]; exact Nat.le_refl _)] at h
          exact h)
        have HAT := Lib.hid (own_any hrow)
        clear hrow hzs
        go_wp2_with fail
        refine (zzout_arr zs zs.length rfl (by rw [HZR.out]; exact HFL.out) _ _ HAT.out).mono ?_
        rintro e w3 ⟨⟨s3, rfl, hat3⟩, hb3⟩
        have HAT3 := Lib.hid hat3
        obtain ⟨oa, ocap, rfl, _⟩ := hat3
        have hr3 := (hb3.block W.heap.size hz2).trans HR0.out
        have rc0 : w3.cell? ⟨W.heap.size, 0, none⟩ = some (.int .i64 0) := cell_of_row _ _ 0 _ _ (0, 0) hr3
        have rc1 : w3.cell? ⟨W.heap.size, 1, none⟩ = some (.bool false) := cell_of_row _ _ 1 _ _ (0, 0) hr3
        have rc2 : w3.cell? ⟨W.heap.size, 2, none⟩ = some (.int .i64 0) := cell_of_row _ _ 2 _ _ (0, 0) hr3
        have rc3 : w3.cell? ⟨W.heap.size, 3, none⟩ = some (.float .f64 0) := cell_of_row _ _ 3 _ _ (0, 0) hr3
        have rc4 : w3.cell? ⟨W.heap.size, 4, none⟩ = some (.string ByteArray.empty) := cell_of_row _ _ 4 _ _ (0, 0) hr3
        have rc5 : w3.cell? ⟨W.heap.size, 5, none⟩ = some (.slice none 0 0) := cell_of_row _ _ 5 _ _ (0, 0) hr3
        have rc6 : w3.cell? ⟨W.heap.size, 6, none⟩ = some (.bool false) := cell_of_row _ _ 6 _ _ (0, 0) hr3
        have rf : ∀ o, w3.frozen? ⟨W.heap.size, o, none⟩ = false := fun o => by simp [World.frozen?, show w3.heap[W.heap.size]? = _ from hr3]
        have HB3 := Lib.hid (HB2.out.trans (hb3.mono HB2.out.size))
        clear hb3 hr3
        go_wp2
        refine bodyPost_ret (v := .agg #[.int .i64 6, .bool false, .int .i64 0, .float .f64 0, .string ByteArray.empty, (.slice oa zs.length ocap), .bool true]) ?_ rfl ⟨.inr ⟨hkp, _, rfl, ?_⟩, ?_⟩
        · simp [results, Tryz.results7, go_sem, rc0, rc1, rc2, rc3, rc4, rc5, rc6]
          try rfl
        · rw [← HZR.out]
          exact (((((((HAT3.out.set ⟨W.heap.size, 0, none⟩ (by simp; omega) _).set ⟨W.heap.size, 1, none⟩ (by simp; omega) _).set ⟨W.heap.size, 2, none⟩ (by simp; omega) _).set ⟨W.heap.size, 3, none⟩ (by simp; omega) _).set ⟨W.heap.size, 4, none⟩ (by simp; omega) _).set ⟨W.heap.size, 5, none⟩ (by simp; omega) _).set ⟨W.heap.size, 6, none⟩ (by simp; omega) _).at
        · go_grown
          exact HB3.out
end Go.Proofs.YtonbnmpleecegabGreatDoor
