/- The walk of FnAddConcatenatesArrays. -/
import Derived.Test.YtonbnmpleecegabGreatDoorAddY
namespace Go.Proofs.YtonbnmpleecegabGreatDoor
open Go.RowKit Go.Deep

def lenAt (rows : List (List Int)) (j : Nat) : Nat := (rows.getD j []).length
def offAt (rows : List (List Int)) (i : Nat) : Nat := ((rows.take i).flatten).length
theorem take_snoc (rows : List (List Int)) (i : Nat) (h : i < rows.length) : rows.take (i + 1) = rows.take i ++ [rows.getD i []] := by
  rw [List.take_add_one, List.getElem?_eq_getElem h]
  simp [List.getD_eq_getElem?_getD, h]
theorem offAt_succ (rows : List (List Int)) (i : Nat) (h : i < rows.length) : offAt rows (i + 1) = offAt rows i + lenAt rows i := by
  unfold offAt lenAt
  rw [take_snoc rows i h, List.flatten_append, List.length_append]
  simp
theorem flat_get (rows : List (List Int)) (i j : Nat) (h : i < rows.length) (hj : j < lenAt rows i) : rows.flatten.getD (offAt rows i + j) 0 = (rows.getD i []).getD j 0 ∧ offAt rows i + j < rows.flatten.length := by
  have e : rows = rows.take i ++ rows.getD i [] :: rows.drop (i + 1) := by
    have := List.take_append_drop i rows
    rw [List.drop_eq_getElem_cons h] at this
    simp only [List.getD_eq_getElem?_getD, List.getElem?_eq_getElem h, Option.getD_some]
    exact this.symm
  have e2 : rows.flatten = (rows.take i).flatten ++ (rows.getD i [] ++ (rows.drop (i + 1)).flatten) := by
    conv => lhs; rw [e]
    rw [List.flatten_append, List.flatten_cons]
  unfold lenAt at hj
  rw [e2]
  unfold offAt
  refine ⟨?_, by rw [List.length_append, List.length_append]; omega⟩
  rw [List.getD_eq_getElem?_getD, List.getElem?_append_right (by omega), Nat.add_sub_cancel_left, List.getElem?_append_left hj, ← List.getD_eq_getElem?_getD]
theorem offAt_all (rows : List (List Int)) (n : Nat) (h : rows.length = n) : offAt rows n = rows.flatten.length := by
  unfold offAt; rw [List.take_of_length_le (by omega)]
def RowCells (rows : List (List Int)) (n : Nat) (a : Option Addr) (w : World) : Prop :=
  0 < n → ∃ b off, a = some ⟨b, off, none⟩ ∧ b < w.heap.size ∧ ∀ i, i < n → ∃ ra rc, w.cell? ⟨b, off + i, none⟩ = some (.slice ra (lenAt rows i) rc) ∧
    (0 < lenAt rows i → ∃ rb ro, ra = some ⟨rb, ro, none⟩ ∧ rb < w.heap.size ∧ ∀ j, j < lenAt rows i → w.cell? ⟨rb, ro + j, none⟩ = some (.int .i64 ((rows.getD i []).getD j 0)))
theorem rowCells_of {rows : List (List Int)} {n : Nat} {w : World} {v : Value} (hn : rows.length = n) (h : RowsAt w v rows) : ∃ a cap, v = .slice a n cap ∧ RowCells rows n a w := by
  obtain ⟨R, ⟨a, cap, rfl, hc⟩, hin⟩ := h
  rw [hn] at hc hin
  refine ⟨a, cap, by rw [hn], fun h0 => ?_⟩
  obtain ⟨b, off, rfl, hb, hcell⟩ := hc h0
  refine ⟨b, off, rfl, hb, fun i hi => ?_⟩
  obtain ⟨ra, rc, hR, hrc⟩ := hin i hi
  refine ⟨ra, rc, by rw [hcell i hi, hR]; rfl, fun hl => ?_⟩
  obtain ⟨rb, ro, rfl, hrb, hrcell⟩ := hrc hl
  exact ⟨rb, ro, rfl, hrb, fun j hj => hrcell j hj⟩
def BytesEnd (rows : List (List Int)) (n : Nat) (W : World) (e : Ending) (w' : World) : Prop :=
  ∃ b, e = .returned (.bool b) ∧ (b = true → n ≤ 1048576 ∧ ∀ j, j < n → lenAt rows j ≤ 1048576) ∧ W = w'
set_option maxRecDepth 100000 in
set_option maxHeartbeats 2000000 in
theorem zzbR (rows : List (List Int)) (n : Nat) (a : Option Addr) (cap : Nat) (W : World) (hv : RowCells rows n a W) :
    Calls Tryz.prog 5 #[.slice a n cap] W (BytesEnd rows n W) := by
  have HC := Lib.hid hv
  clear hv
  by_cases c : 1048576 < n
  · go_enter Tryz.func5, Tryz.ntmps5
    go_wp2
    go_ret
    exact ⟨false, rfl, (fun h => by cases h), rfl⟩
  · have hm : n ≤ 1048576 := by omega
    go_enter Tryz.func5, Tryz.ntmps5
    go_wp2
    go_loop [3, 4] (fun t i => ∃ k s : Nat, k ≤ n ∧ s ≤ 1048576 ∧ t = .int .i64 s ∧ i = .int .i64 k ∧ Hid (∀ j, j < k → lenAt rows j ≤ 1048576)) (fun _ i => n - (intOf i).toNat)
    case atStart => exact ⟨0, n, Nat.zero_le _, hm, rfl, rfl, Lib.hid fun j hj => absurd hj (Nat.not_lt_zero _)⟩
    case round =>
      obtain ⟨k, s, hk, hs, rfl, rfl, HK⟩ := hrel
      by_cases hlt : k < n
      · obtain ⟨b, off, hx, hbl, hcell⟩ := HC.out (by omega)
        cases hx
        obtain ⟨ra, rc, hcx, _⟩ := hcell k hlt
        obtain ⟨m, hm2⟩ : ∃ m, lenAt rows k = m := ⟨_, rfl⟩
        rw [hm2] at hcx
        have HM := Lib.hid hm2
        clear hcell hm2
        by_cases c1 : 1048576 < m
        · go_wp2
          go_ret
          exact ⟨false, rfl, (fun h => by cases h), rfl⟩
        · by_cases c2 : 1048576 < s + m
          · have i2 : (1048576 : Int) < (s : Int) + (m : Int) := by omega
            go_wp2
            go_ret
            exact ⟨false, rfl, (fun h => by cases h), rfl⟩
          · have i2 : ¬ ((1048576 : Int) < (s : Int) + (m : Int)) := by omega
            go_wp2
            go_round
            case rel => exact ⟨k + 1, s + m, by omega, by omega, by go_num, by go_num, Lib.hid fun j hj => by
              by_cases e : j = k
              · rw [e, HM.out]; omega
              · exact HK.out j (by omega)⟩
            case measure => simp [intOf]; omega
      · obtain rfl : k = n := by omega
        go_wp2
        go_ret
        exact ⟨true, rfl, fun _ => ⟨hm, HK.out⟩, rfl⟩
set_option maxRecDepth 100000 in
set_option maxHeartbeats 16000000 in
theorem walk_FnAddConcatenatesArrays (W : World) (v : Value) (rows : List (List Int)) (hv0 : RowsAt W v rows) (_hw : ∀ r ∈ rows, ∀ n ∈ r, (Lit.int .i64 n).wf = true) :
    Calls Tryz.prog 3 #[v] W fun e w' => e = .returned (.bool true) ∧ Below W.heap.size W w' := by
  obtain ⟨n, hn⟩ : ∃ n, rows.length = n := ⟨_, rfl⟩
  have HV := Lib.hid hv0
  have HN := Lib.hid hn
  obtain ⟨a, cap, rfl, hcc⟩ := rowCells_of hn hv0
  have HC := Lib.hid hcc
  clear hv0 hn hcc
  go_enter Tryz.func3, Tryz.ntmps3
  go_wp2_with fail
  refine (zzbR rows n a cap _ HC.out).mono ?_
  rintro e w' ⟨b, rfl, hb, rfl⟩
  cases b with
  | false =>
    go_wp2
    go_ret
    exact ⟨rfl, Below.refl _ _⟩
  | true =>
    obtain ⟨hm, hlen⟩ := hb rfl
    have HL := Lib.hid hlen
    clear hlen hb
    by_cases c2 : 65536 < n
    · go_wp2
      go_ret
      exact ⟨rfl, Below.refl _ _⟩
    by_cases c3 : 1048576 < 24 * n
    · have i3 : (1048576 : Int) < 24 * (n : Int) := by omega
      go_wp2
      go_ret
      exact ⟨rfl, Below.refl _ _⟩
    have i3 : ¬ ((1048576 : Int) < 24 * (n : Int)) := by omega
    go_wp2
    go_loop [3, 4] (fun t i => ∃ k s : Nat, k ≤ n ∧ s ≤ 1048576 ∧ t = .int .i64 s ∧ i = .int .i64 k ∧ Hid (s = 24 * n + 8 * offAt rows k)) (fun _ i => n - (intOf i).toNat)
    case atStart => exact ⟨0, 24 * n, Nat.zero_le _, by omega, by go_num, rfl, Lib.hid (by unfold offAt; simp)⟩
    case round =>
      obtain ⟨k, s, hk, hs, rfl, rfl, HK⟩ := hrel
      by_cases hlt : k < n
      · obtain ⟨b, off, hx, hbl, hcell⟩ := HC.out (by omega)
        cases hx
        obtain ⟨ra, rc, hcx, _⟩ := hcell k hlt
        obtain ⟨m, hm2⟩ : ∃ m, lenAt rows k = m := ⟨_, rfl⟩
        have hml := HL.out k hlt
        rw [hm2] at hcx hml
        have HM := Lib.hid hm2
        clear hcell hm2
        by_cases c4 : 1048576 < s + 8 * m
        · have i4 : (1048576 : Int) < (s : Int) + 8 * (m : Int) := by omega
          go_wp2
          go_ret
          exact ⟨rfl, Below.refl _ _⟩
        · have i4 : ¬ ((1048576 : Int) < (s : Int) + 8 * (m : Int)) := by omega
          go_wp2
          go_round
          case rel => exact ⟨k + 1, s + 8 * m, by omega, by omega, by go_num, by go_num, Lib.hid (by rw [offAt_succ rows k (by rw [HN.out]; exact hlt), HM.out, HK.out]; omega)⟩
          case measure => simp [intOf]; omega
      · obtain rfl : k = n := by omega
        have hfl : rows.flatten.length ≤ 131072 := by
          have := HK.out
          rw [offAt_all rows k HN.out] at this
          omega
        have hrl : ∀ j, j < k → (rows.getD j []).length ≤ 131072 := fun j hj => by
          by_cases h0 : 0 < lenAt rows j
          · have := (flat_get rows j (lenAt rows j - 1) (by rw [HN.out]; exact hj) (by omega)).2
            unfold lenAt at this h0
            omega
          · unfold lenAt at h0; omega
        have HFL := Lib.hid hfl
        have HRL := Lib.hid hrl
        clear hfl hrl hs HK
        go_wp2_with fail
        refine (cloneR_any rows k HN.out (by omega) HRL.out _ _ HV.out).mono ?_
        rintro e w0 ⟨⟨v0, rfl, hv0⟩, hb0⟩
        have HV0 := Lib.hid hv0
        have HB0 := Lib.hid hb0
        obtain ⟨a0, cap0, rfl, _⟩ := rowCells_of HN.out hv0
        clear hb0 hv0
        go_wp2_with fail
        refine (zzadd_arr rows k HN.out (by omega) HFL.out HRL.out _ _ HV0.out).mono ?_
        rintro e w1 ⟨hout, hb1⟩
        have HB1 := Lib.hid (HB0.out.trans (hb1.mono HB0.out.size))
        have HV1 := Lib.hid (HV0.out.later hb1)
        clear hb1
        rcases hout with ⟨h0, rfl⟩ | ⟨hk0, sv, rfl, hat⟩
        · subst h0
          go_wp2
          go_ret
          exact ⟨rfl, HB1.out.alloc HB1.out.size _⟩
        · obtain ⟨N, hN⟩ : ∃ N, rows.flatten.length = N := ⟨_, rfl⟩
          rw [hN] at hat
          have HNN := Lib.hid hN
          have hNb : N ≤ 131072 := by have := HFL.out; omega
          have hk1 : ((k : Int) == 0) = false := by simp; omega
          obtain ⟨oa, ocap, rfl, hoc⟩ := hat
          obtain ⟨w5, hw5⟩ : ∃ w5, w1.alloc (.cells #[.int .i64 6, .bool false, .int .i64 0, .float .f64 0, .string ByteArray.empty, .slice oa N ocap, .bool true] 28) = w5 := ⟨_, rfl⟩
          have hb5 : Below w1.heap.size w1 w5 := by rw [← hw5]; exact (Below.refl _ _).alloc (Nat.le_refl _) _
          have HO5 : Hid (0 < N → ∃ b off, oa = some ⟨b, off, none⟩ ∧ b < w5.heap.size ∧ ∀ i, i < N → w5.cell? ⟨b, off + i, none⟩ = some (.int .i64 (rows.flatten.getD i 0))) := Lib.hid fun h0 => by
            obtain ⟨b, off, e1, e2, e3⟩ := hoc h0
            exact ⟨b, off, e1, Nat.lt_of_lt_of_le e2 hb5.size, fun i hi => (hb5.cell (p := ⟨b, off + i, none⟩) e2).trans (e3 i hi)⟩
          obtain ⟨a9, cap9, e9, hrc9⟩ := rowCells_of HN.out (HV1.out.later hb5)
          cases e9
          have HR5 := Lib.hid hrc9
          have HC5 : Hid (w5.cell? ⟨w1.heap.size, 5, none⟩ = some (.slice oa N ocap)) := Lib.hid (by rw [← hw5, World.cell?_alloc_new]; rfl)
          have hs5 : w1.heap.size < w5.heap.size := by rw [← hw5, nblk_alloc]; omega
          have HB5 := Lib.hid (HB1.out.trans (hb5.mono HB1.out.size))
          have HW5 := Lib.hid hw5
          clear hoc hrc9 hb5 hw5
          go_wp2
          rw [HW5.out]
          go_loopw [6, 7] (fun kv i wr => ∃ q K : Nat, q ≤ k ∧ i = .int .i64 q ∧ kv = .int .i64 K ∧ Hid (K = offAt rows q ∧ Below w5.heap.size w5 wr)) (fun _ i _ => k - (intOf i).toNat)
          case atStart => exact ⟨0, 0, Nat.zero_le _, rfl, rfl, Lib.hid ⟨by unfold offAt; simp, Below.refl _ _⟩⟩
          case round =>
            obtain ⟨q, K, hq, rfl, rfl, HKB⟩ := hrel
            by_cases hlt : q < k
            · obtain ⟨wo, hwo⟩ : ∃ wo : World, wo = wr := ⟨_, rfl⟩
              subst hwo
              obtain ⟨b9, off9, hx9, hb9l, hcell9⟩ := HR5.out (by omega)
              cases hx9
              obtain ⟨ra, rc, hcx, hrow⟩ := hcell9 q hlt
              obtain ⟨m, hm2⟩ : ∃ m, lenAt rows q = m := ⟨_, rfl⟩
              rw [hm2] at hcx hrow
              have HM := Lib.hid hm2
              have HROW := Lib.hid hrow
              have hcx2 : wo.cell? ⟨b9, off9 + q, none⟩ = some (.slice ra m rc) := (HKB.out.2.cell (p := ⟨b9, off9 + q, none⟩) hb9l).trans hcx
              have HCX := Lib.hid hcx
              clear hcell9 hm2 hrow hcx
              go_wp2
              go_loopw [6, 8] (fun kv jv wr => ∃ j K' : Nat, j ≤ m ∧ jv = .int .i64 j ∧ kv = .int .i64 K' ∧ Hid (K' = offAt rows q + j ∧ Below w5.heap.size w5 wr)) (fun _ jv _ => m - (intOf jv).toNat)
              case atStart => exact ⟨0, K, Nat.zero_le _, rfl, rfl, Lib.hid ⟨HKB.out.1, HKB.out.2⟩⟩
              case round =>
                obtain ⟨j, K2, hj, rfl, rfl, HKB2⟩ := hrel
                have hml := HL.out q hlt
                rw [HM.out] at hml
                by_cases hjl : j < m
                · obtain ⟨rb, ro, hx2, hrb, hrcell⟩ := HROW.out (by omega)
                  subst hx2
                  have cx : wr.cell? ⟨b9, off9 + q, none⟩ = some (.slice (some ⟨rb, ro, none⟩) m rc) := (HKB2.out.2.cell (p := ⟨b9, off9 + q, none⟩) hb9l).trans HCX.out
                  have cz0 : wr.cell? ⟨rb, ro + j, none⟩ = some (.int .i64 ((rows.getD q []).getD j 0)) := (HKB2.out.2.cell (p := ⟨rb, ro + j, none⟩) hrb).trans (hrcell j hjl)
                  have co : wr.cell? ⟨w1.heap.size, 5, none⟩ = some (.slice oa N ocap) := (HKB2.out.2.cell (p := ⟨w1.heap.size, 5, none⟩) hs5).trans HC5.out
                  have fg := flat_get rows q j (by rw [HN.out]; exact hlt) (by rw [HM.out]; exact hjl)
                  rw [← HKB2.out.1, HNN.out] at fg
                  obtain ⟨ob, oo, hx3, hob, hocell⟩ := HO5.out (by omega)
                  subst hx3
                  have cz1 : wr.cell? ⟨ob, oo + K2, none⟩ = some (.int .i64 ((rows.getD q []).getD j 0)) := (HKB2.out.2.cell (p := ⟨ob, oo + K2, none⟩) hob).trans ((hocell K2 fg.2).trans (by rw [fg.1]))
                  obtain ⟨z, hz⟩ : ∃ z, (rows.getD q []).getD j 0 = z := ⟨_, rfl⟩
                  rw [hz] at cz0 cz1
                  have hKN := fg.2
                  have hgd : decide ((N : Int) ≤ (K2 : Int)) = false := by simp; omega
                  clear hz fg hocell hrcell
                  go_wp2
                  go_quiet (fail)
                  go_wp2
                  go_round
                  case rel => exact ⟨j + 1, K2 + 1, by omega, by go_num, by go_num, Lib.hid ⟨by have := HKB2.out.1; omega, below_dN HKB2.out.2 _⟩⟩
                  case measure => simp [intOf]; omega
                · obtain rfl : j = m := by omega
                  have cx : wr.cell? ⟨b9, off9 + q, none⟩ = some (.slice ra j rc) := (HKB2.out.2.cell (p := ⟨b9, off9 + q, none⟩) hb9l).trans HCX.out
                  go_wp2
                  go_round
                  case rel => exact ⟨q + 1, K2, by omega, by go_num, by go_num, Lib.hid ⟨by rw [offAt_succ rows q (by rw [HN.out]; exact hlt), HM.out]; exact HKB2.out.1, HKB2.out.2⟩⟩
                  case measure => simp [intOf]; omega
            · obtain rfl : q = k := by omega
              have co : wr.cell? ⟨w1.heap.size, 5, none⟩ = some (.slice oa N ocap) := (HKB.out.2.cell (p := ⟨w1.heap.size, 5, none⟩) hs5).trans HC5.out
              obtain rfl : K = N := by rw [HKB.out.1, offAt_all rows q HN.out, HNN.out]
              go_wp2
              go_ret
              refine ⟨?_, HB5.out.trans (HKB.out.2.mono HB5.out.size)⟩
              simp
end Go.Proofs.YtonbnmpleecegabGreatDoor
