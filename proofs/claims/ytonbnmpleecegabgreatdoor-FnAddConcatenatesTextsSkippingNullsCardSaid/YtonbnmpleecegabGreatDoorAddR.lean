/- Rows of rows of ints: an argument, the clone. -/
import Derived.Test.YtonbnmpleecegabGreatDoorFacts
import Derived.Test.YtonbnmpleecegabGreatDoorIntC
import Derived.Deep.Matrix
namespace Go.Proofs.YtonbnmpleecegabGreatDoor
open Go.RowKit Go.Deep

/-- A slice of n elements whose cells lie in a block from base on. -/
def AtFrom (base : Nat) (w : World) (v : Value) (f : Nat → Value) (n : Nat) : Prop :=
  ∃ a cap, v = .slice a n cap ∧ (0 < n → ∃ b off, a = some ⟨b, off, none⟩ ∧ base ≤ b ∧ b < w.heap.size ∧ ∀ i, i < n → w.cell? ⟨b, off + i, none⟩ = some (f i))
theorem AtFrom.at {base : Nat} {w : World} {v : Value} {f : Nat → Value} {n : Nat} (h : AtFrom base w v f n) : Cells.At w v f n := by
  obtain ⟨a, cap, rfl, hc⟩ := h
  exact ⟨a, cap, rfl, fun h0 => by obtain ⟨b, off, h1, _, h2, h3⟩ := hc h0; exact ⟨b, off, h1, h2, h3⟩⟩
theorem AtFrom.later {base : Nat} {w w' : World} {v : Value} {f : Nat → Value} {n : Nat} (h : AtFrom base w v f n) (hb : Below w.heap.size w w') : AtFrom base w' v f n := by
  obtain ⟨a, cap, rfl, hc⟩ := h
  refine ⟨a, cap, rfl, fun h0 => ?_⟩
  obtain ⟨b, off, rfl, hle, hlt, hcc⟩ := hc h0
  exact ⟨b, off, rfl, hle, Nat.lt_of_lt_of_le hlt hb.size, fun i hi => (hb.cell (p := ⟨b, off + i, none⟩) hlt).trans (hcc i hi)⟩
theorem AtFrom.set {base : Nat} {w : World} {v : Value} {f : Nat → Value} {n : Nat} (h : AtFrom base w v f n) (p : Addr) (hp : p.block < base) (u : Value) : AtFrom base (w.setCell p u) v f n := by
  obtain ⟨a, cap, rfl, hc⟩ := h
  refine ⟨a, cap, rfl, fun h0 => ?_⟩
  obtain ⟨b, off, rfl, hle, hlt, hcc⟩ := hc h0
  exact ⟨b, off, rfl, hle, by simpa using hlt, fun i hi => (World.cell?_setCell_other w p ⟨b, off + i, none⟩ u (fun e => by rw [e] at hp; simp at hp; omega)).trans (hcc i hi)⟩
/-- A slice of rows of ints. -/
def RowsAt (w : World) (v : Value) (rows : List (List Int)) : Prop :=
  ∃ R : Nat → Value, Cells.At w v R rows.length ∧ ∀ j, j < rows.length → Cells.At w (R j) (IntF (rows.getD j [])) (rows.getD j []).length
theorem RowsAt.later {w w' : World} {v : Value} {rows : List (List Int)} (h : RowsAt w v rows) (hb : Below w.heap.size w w') : RowsAt w' v rows := by
  obtain ⟨R, h1, h2⟩ := h
  exact ⟨R, h1.later hb, fun j hj => (h2 j hj).later hb⟩
theorem cells_rows : Tryz.prog.cellsOf 24 = 1 := by kernel_rfl
open Go.ChangeShapes Go.WideShapes Go.ChangeAt Go.WideMaps Go.WideElems in
set_option maxRecDepth 100000 in
theorem intss_arg {H : Type} {enc : TypeId × Value → H} {W : World} {base : Nat} {v : Value} {d : DataW H} {p : List MemPlace}
    (hv : Value.okWide Tryz.prog W .any base 22 v) (h : DataW.Trod enc Tryz.prog W 0 (fun _ => true) true 22 v d p) (hlt : ∀ x ∈ p, x.block < W.heap.size) :
    ∃ rows : List (List Int), RowsAt W v rows ∧ ∀ r ∈ rows, ∀ n ∈ r, (Lit.int .i64 n).wf = true := by
  obtain ⟨a0, len, cap, rfl⟩ := okWide_slice Tryz.underlying22 hv
  obtain ⟨fuel, hf⟩ := h
  rcases open_int_rows Tryz.underlying22 Tryz.underlying24 Tryz.underlying3 cells_rows cells_int hf with ⟨hcs, hx⟩ | ⟨a, len', cap', A, L, C, Z, hcs, _, hl, hm, hx, hrows⟩
  · simp [Value.cells] at hcs
    obtain ⟨rfl, rfl, rfl⟩ := hcs
    exact ⟨[], ⟨fun _ => .nilIface, ⟨none, 0, rfl, fun h => absurd h (by simp)⟩, fun j hj => absurd hj (by simp)⟩, fun r hr => by cases hr⟩
  · simp [Value.cells] at hcs
    obtain ⟨rfl, rfl, rfl⟩ := hcs
    simp only [Prod.mk.injEq] at hx
    obtain ⟨rfl, rfl⟩ := hx
    obtain ⟨rows, hrw⟩ : ∃ rows : List (List Int), rows = (List.range len).map fun r => (Z r).take (L r) := ⟨_, rfl⟩
    have hrl : rows.length = len := by rw [hrw]; simp
    have hrg : ∀ j, j < len → rows.getD j [] = (Z j).take (L j) := fun j hj => by
      rw [hrw, List.getD_eq_getElem?_getD, List.getElem?_map, List.getElem?_range hj]; rfl
    refine ⟨rows, ⟨fun j => .slice (A j) (L j) (C j), ?_, fun j hj => ?_⟩, fun r hr n hn => ?_⟩
    · rw [hrl]
      refine ⟨some a, cap, rfl, fun h0 => ?_⟩
      obtain ⟨b, off, spot⟩ := a
      have hspot : spot = none := by simpa [Addr.add] using World.cell?_spot (hrows 0 (by omega)).1
      subst hspot
      refine ⟨b, off, rfl, hlt (.cell b off) (List.mem_append_left _ (MemPlace.mem_row.2 ⟨0, by omega, by simp⟩)), fun i hi => ?_⟩
      have := (hrows i (by omega)).1
      rwa [add_plain] at this
    · have hj' : j < len := by omega
      obtain ⟨h1, h2, h3, h4, h5, h6, h7⟩ := hrows j (by omega)
      have hzl : ((Z j).take (L j)).length = L j := by rw [List.length_take]; omega
      rw [hrg j hj', hzl]
      refine ⟨A j, C j, rfl, fun h0 => ?_⟩
      cases hA : A j with
      | none => have := h6 hA; omega
      | some a' =>
        obtain ⟨b', off', spot'⟩ := a'
        obtain ⟨_, hc⟩ := h7 _ hA
        have hspot : spot' = none := by simpa [Addr.add] using World.cell?_spot (hc 0 (by omega))
        subst hspot
        refine ⟨b', off', rfl, hlt (.cell b' off') (List.mem_append_right _ (List.mem_flatMap.2 ⟨j, List.mem_range.2 (by omega), ?_⟩)), fun i hi => ?_⟩
        · rw [hA]
          exact MemPlace.mem_row.2 ⟨0, by omega, by simp⟩
        · have := hc i (by omega)
          rw [add_plain] at this
          rw [this]
          unfold IntF
          congr 2
          simp [List.getD_eq_getElem?_getD, hi]
    · rw [hrw] at hr
      obtain ⟨j, hj, rfl⟩ := List.mem_map.1 hr
      exact (hrows j (by have := List.mem_range.1 hj; omega)).2.2.2.2.1 n (List.mem_of_mem_take hn)
set_option maxRecDepth 100000 in
set_option maxHeartbeats 2000000 in
theorem cloneI_any (zs : List Int) (n : Nat) (v : Value) (hl : n ≤ 131072) (W : World) (hv : Cells.At W v (IntF zs) n) :
    Calls Tryz.prog 12 #[v] W fun e w' => (∃ v', e = .returned v' ∧ AtFrom W.heap.size w' v' (IntF zs) n) ∧ Below W.heap.size W w' := by
  obtain ⟨a, cap, rfl, hcc⟩ := hv
  have HC := Lib.hid hcc
  clear hcc
  have hnil := fun w a n c n' c' => Lib.run_eql_slice_nil (P := Tryz.prog) w 24 _ a n c n' c' Tryz.underlying24
  cases a with
  | none =>
    have h0 : n = 0 := by
      rcases Nat.eq_zero_or_pos n with h | h
      · exact h
      · obtain ⟨b, off, hx, _⟩ := HC.out h
        cases hx
    subst h0
    go_enter Tryz.func12, Tryz.ntmps12
    go_wp2
    go_ret
    exact ⟨⟨_, rfl, none, 0, rfl, fun h => absurd h (Nat.lt_irrefl _)⟩, Below.refl _ _⟩
  | some ad =>
    have hmk := fun w => run_make_row' (P := Tryz.prog) 24 3 (.int .i64 0) 8 Tryz.underlying24 info_intI rfl .i64 .i64 n (by omega) (by omega) w
    have hS : Hid (Below W.heap.size W (W.alloc (.cells (madeCells #[.int .i64 0] n) 3)) ∧ (W.alloc (.cells (madeCells #[.int .i64 0] n) 3)).rowIs W.heap.size 3 n (Cells.fill (IntF zs) (.int .i64 0) 0)) :=
      Lib.hid ⟨(Below.refl _ _).alloc (Nat.le_refl _) _, Cells.fill_start (World.rowIs_made W _ n _)⟩
    go_enter Tryz.func12, Tryz.ntmps12
    go_wp2
    go_loopw [4] (fun i wr => ∃ k : Nat, k ≤ n ∧ i = .int .i64 k ∧ Hid (Below W.heap.size W wr ∧ wr.rowIs W.heap.size 3 n (Cells.fill (IntF zs) (.int .i64 0) k))) (fun i _ => n - (intOf i).toNat)
    case atStart => exact ⟨0, Nat.zero_le _, rfl, hS⟩
    case round =>
      obtain ⟨k, hk, rfl, HR⟩ := hrel
      by_cases hlt : k < n
      · obtain ⟨b, off, hx, hbl, hcell⟩ := HC.out (by omega)
        cases hx
        have hcx : wr.cell? ⟨b, off + k, none⟩ = some (.int .i64 (zs.getD k 0)) := (HR.out.1.cell (p := ⟨b, off + k, none⟩) hbl).trans (hcell k hlt)
        clear hcell
        obtain ⟨z, hz⟩ : ∃ z, zs.getD k 0 = z := ⟨_, rfl⟩
        rw [hz] at hcx
        have HZ := Lib.hid hz
        clear hz
        have hco := Cells.fill_old HR.out.2 hlt (Nat.lt_irrefl _)
        have hfo := HR.out.2.frozen k
        go_wp2
        go_roundw
        case rel => exact ⟨k + 1, by omega, by go_num, Lib.hid ⟨HR.out.1.setCell (Nat.le_refl _) _, Cells.fill_set HR.out.2 _ (by unfold IntF; rw [HZ.out])⟩⟩
        case measure => simp [intOf]; omega
      · obtain rfl : k = n := by omega
        go_wp2
        go_ret
        exact ⟨⟨_, rfl, _, k, rfl, fun _ => ⟨W.heap.size, 0, rfl, Nat.le_refl _, HR.out.2.lt, fun i hi => by rw [Nat.zero_add]; exact Cells.fill_cell HR.out.2 hi hi⟩⟩, HR.out.1⟩
theorem info_rows : (Tryz.prog.info? 24).map (fun i => (i.zero, i.size, i.bytes)) = some (some (.slice none 0 0), 1, 24) := by kernel_rfl
/-- What the clone keeps: k rows stand in new blocks. -/
def CloneR (rows : List (List Int)) (n k B : Nat) (W wr : World) : Prop :=
  Below B W wr ∧ ∃ R : Nat → Value, wr.rowIs B 24 n (Cells.fill R (.slice none 0 0) k) ∧ ∀ j, j < k → AtFrom (B + 1) wr (R j) (IntF (rows.getD j [])) (rows.getD j []).length
theorem CloneR.step {rows : List (List Int)} {n k B : Nat} {W wr w1 : World} {v : Value} (h : CloneR rows n k B W wr) (hb : Below wr.heap.size wr w1) (hv : AtFrom wr.heap.size w1 v (IntF (rows.getD k [])) (rows.getD k []).length) :
    CloneR rows n (k + 1) B W (w1.setCell ⟨B, k, none⟩ v) := by
  obtain ⟨h1, R, h2, h3⟩ := h
  have hsz : B < wr.heap.size := h2.lt
  refine ⟨(h1.trans (hb.mono (by omega))).setCell (Nat.le_refl _) _, fun j => if j = k then v else R j, ?_, fun j hj => ?_⟩
  · refine ((Cells.rowIs_later h2 hb).set k v).congr fun j _ => ?_
    unfold Cells.fill
    by_cases c : j = k
    · rw [if_pos c, if_pos (by omega)]; exact (if_pos c).symm
    · rw [if_neg c]
      by_cases c2 : j < k
      · rw [if_pos c2, if_pos (by omega)]; exact (if_neg c).symm
      · rw [if_neg c2, if_neg (by omega)]
  · by_cases c : j = k
    · subst c
      simp only [if_true]
      obtain ⟨a, cap, rfl, hc⟩ := hv
      exact AtFrom.set ⟨a, cap, rfl, fun h0 => by obtain ⟨b, off, e1, e2, e3⟩ := hc h0; exact ⟨b, off, e1, by omega, e3⟩⟩ _ (by simp) _
    · simp only [if_neg c]
      exact ((h3 j (by omega)).later hb).set _ (by simp) _
set_option maxRecDepth 100000 in
set_option maxHeartbeats 2000000 in
theorem cloneR_any (rows : List (List Int)) (n : Nat) (hn : rows.length = n) (hl : n ≤ 131072) (hrl : ∀ j, j < n → (rows.getD j []).length ≤ 131072) (v : Value) (W : World) (hv0 : RowsAt W v rows) :
    Calls Tryz.prog 6 #[v] W fun e w' => (∃ v', e = .returned v' ∧ RowsAt w' v' rows) ∧ Below W.heap.size W w' := by
  obtain ⟨R0, hv, hin⟩ := hv0
  rw [hn] at hv hin
  have HIN := Lib.hid hin
  have HRL := Lib.hid hrl
  have HN := Lib.hid hn
  clear hin hrl hn
  obtain ⟨a, cap, rfl, hcc⟩ := hv
  have HC := Lib.hid hcc
  clear hcc
  have hnil := fun w a n c n' c' => Lib.run_eql_slice_nil (P := Tryz.prog) w 22 _ a n c n' c' Tryz.underlying22
  cases a with
  | none =>
    have h0 : n = 0 := by
      rcases Nat.eq_zero_or_pos n with h | h
      · exact h
      · obtain ⟨b, off, hx, _⟩ := HC.out h
        cases hx
    subst h0
    go_enter Tryz.func6, Tryz.ntmps6
    go_wp2
    go_ret
    exact ⟨⟨_, rfl, fun _ => .nilIface, by rw [HN.out]; exact ⟨none, 0, rfl, fun h => absurd h (Nat.lt_irrefl _)⟩, fun j hj => absurd hj (by rw [HN.out]; exact Nat.not_lt_zero _)⟩, Below.refl _ _⟩
  | some ad =>
    have hmk := fun w => run_make_row' (P := Tryz.prog) 22 24 (.slice none 0 0) 24 Tryz.underlying22 info_rows rfl .i64 .i64 n (by omega) (by omega) w
    have hS : Hid (CloneR rows n 0 W.heap.size W (W.alloc (.cells (madeCells #[.slice none 0 0] n) 24))) :=
      Lib.hid ⟨(Below.refl _ _).alloc (Nat.le_refl _) _, fun _ => .nilIface, Cells.fill_start (World.rowIs_made W _ n _), fun j hj => absurd hj (Nat.not_lt_zero _)⟩
    go_enter Tryz.func6, Tryz.ntmps6
    go_wp2
    go_loopw [4] (fun i wr => ∃ k : Nat, k ≤ n ∧ i = .int .i64 k ∧ Hid (CloneR rows n k W.heap.size W wr)) (fun i _ => n - (intOf i).toNat)
    case atStart => exact ⟨0, Nat.zero_le _, rfl, hS⟩
    case round =>
      obtain ⟨k, hk, rfl, HR⟩ := hrel
      by_cases hlt : k < n
      · obtain ⟨b, off, hx, hbl, hcell⟩ := HC.out (by omega)
        cases hx
        have hcx : wr.cell? ⟨b, off + k, none⟩ = some (R0 k) := (HR.out.1.cell (p := ⟨b, off + k, none⟩) hbl).trans (hcell k hlt)
        clear hcell
        have hrow : Cells.At wr (R0 k) (IntF (rows.getD k [])) (rows.getD k []).length := by
          have := HIN.out k hlt
          obtain ⟨a, cap, e1, hc⟩ := this
          exact ⟨a, cap, e1, fun h0 => by obtain ⟨b, off, e2, e3, e4⟩ := hc h0; exact ⟨b, off, e2, Nat.lt_of_lt_of_le e3 HR.out.1.size, fun i hi => (HR.out.1.cell (p := ⟨b, off + i, none⟩) e3).trans (e4 i hi)⟩⟩
        have HROW := Lib.hid hrow
        obtain ⟨rk, hrk⟩ : ∃ r, R0 k = r := ⟨_, rfl⟩
        rw [hrk] at hcx HROW
        clear hrow hrk
        go_wp2_with fail
        refine (cloneI_any _ _ _ (HRL.out k hlt) _ HROW.out).mono ?_
        rintro e w1 ⟨⟨v1, rfl, hv1⟩, hb1⟩
        have HV1 := Lib.hid hv1
        have HB1 := Lib.hid hb1
        obtain ⟨_, R, hr2, _⟩ := HR.out
        have hco := Cells.fill_old (Cells.rowIs_later hr2 hb1) hlt (Nat.lt_irrefl _)
        have hfo := (Cells.rowIs_later hr2 hb1).frozen k
        obtain ⟨a1, cap1, rfl, _⟩ := hv1
        clear hb1 hr2
        go_wp2
        go_roundw
        case rel => exact ⟨k + 1, by omega, by go_num, Lib.hid (HR.out.step HB1.out HV1.out)⟩
        case measure => simp [intOf]; omega
      · obtain rfl : k = n := by omega
        go_wp2
        go_ret
        obtain ⟨hb, R, h2, h3⟩ := HR.out
        exact ⟨⟨_, rfl, R, by rw [HN.out]; exact Cells.fill_at h2, fun j hj => (h3 j (by rw [HN.out] at hj; exact hj)).at⟩, hb⟩
end Go.Proofs.YtonbnmpleecegabGreatDoor
