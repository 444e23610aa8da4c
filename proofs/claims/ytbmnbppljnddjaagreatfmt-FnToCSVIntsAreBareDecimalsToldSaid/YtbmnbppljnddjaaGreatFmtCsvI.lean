/- Walks of @csv over rows of ints: formatJoin at ints, the wrapper; the law. -/
import Derived.Test.YtbmnbppljnddjaaGreatFmtFacts
import Derived.Test.YtbmnbppljnddjaaGreatFmtOwn
import Derived.Test.YtbmnbppljnddjaaGreatFmtEsc
import Derived.Test.YtbmnbppljnddjaaGreatFmtStr
import Derived.Test.YtbmnbppljnddjaaGreatFmtCells
import Derived.Test.YtbmnbppljnddjaaGreatFmtArgs
import Derived.Test.YtbmnbppljnddjaaGreatFmtShelf
import Derived.Test.YtbmnbppljnddjaaGreatFmtEncB
import Derived.Test.YtbmnbppljnddjaaGreatFmtIntK
import Derived.Test.YtbmnbppljnddjaaGreatFmtItoa
import Derived.Handy
import Derived.WalkSpells
import Derived.WalkSmall
import Derived.Deep.LoopGhost
import Derived.Deep.QuietTactic
import Derived.BigQuiet
import Derived.Lib.Hide
namespace Go.Proofs.YtbmnbppljnddjaaGreatFmt
open Go.RowKit Go.Deep


theorem info_strI : (Tryz.prog.info? 9).map (fun i => (i.zero, i.size, i.bytes)) = some (some (.string ByteArray.empty), 1, 16) := by kernel_rfl
def itoaB (n : Int) : ByteArray := ⟨(Lib.itoa n).toArray⟩
def csvIB (zs : List Int) : ByteArray := ⟨(Esc.glue (zs.map Lib.itoa) [44] zs.length).toArray⟩
theorem join_listI (zs : List Int) : Lib.join ((zs.map itoaB).map (·.data.toList)) [44] = Esc.glue (zs.map Lib.itoa) [44] zs.length := by
  rw [List.map_map]
  have e : (zs.map ((fun x : ByteArray => x.data.toList) ∘ itoaB)) = zs.map Lib.itoa := by
    apply List.map_congr_left
    intro s _
    rfl
  rw [e, ← Esc.glue_all, List.length_map]
theorem csv_joinI (zs : List Int) : (⟨(Lib.join ((zs.map itoaB).map (·.data.toList)) [44]).toArray⟩ : ByteArray) = csvIB zs := by
  rw [join_listI]
  rfl

set_option maxRecDepth 100000 in
set_option maxHeartbeats 4000000 in
theorem formatJoin_int (zs : List Int) (n : Nat) (hn : zs.length = n) (hz : ∀ z ∈ zs, (Lit.int .i64 z).wf = true) (hnb : n ≤ 131072) (vb B : Nat) (W : World) (hB : B ≤ W.heap.size) (htab : Lib.TabBelow Tryz.prog B W "internal/strconv.uint64pow10" .u64 Lib.pow10Tab)
    (hvb : vb < W.heap.size) (hcell : ∀ i, i < n → W.cell? ⟨vb, i, none⟩ = some (.iface 3 (.int .i64 (zs.getD i 0)))) :
    Calls Tryz.prog 24 #[.string ⟨#[99, 115, 118]⟩, .iface 37 (.slice (some ⟨vb, 0, none⟩) n n), .string ⟨#[44]⟩, .func (.func 25) #[] #[]] W
      fun e w' => e = .returned (.iface 9 (.string (csvIB zs))) ∧ Below W.heap.size W w' := by
  have HC := Lib.hid hcell
  have HZ := Lib.hid hz
  have HTAB := Lib.hid htab
  clear hcell hz htab
  have hmk := fun w => run_make_row' (P := Tryz.prog) 22 9 (.string ByteArray.empty) 16 Tryz.underlying22 info_strI rfl .i64 .i64 n (by omega) (by omega) w
  have hS : Hid (Below W.heap.size W (W.alloc (.cells (madeCells #[.string ByteArray.empty] n) 9)) ∧ (W.alloc (.cells (madeCells #[.string ByteArray.empty] n) 9)).rowIs W.heap.size 9 n (Cells.fill (fun j => .string (itoaB (zs.getD j 0))) (.string ByteArray.empty) 0)) :=
    Lib.hid ⟨(Below.refl _ _).alloc (Nat.le_refl _) _, Cells.fill_start (World.rowIs_made W _ n _)⟩
  go_enter Tryz.func24, Tryz.ntmps24
  go_wp2
  go_loopw [36] (fun i wr => ∃ k : Nat, k ≤ n ∧ i = .int .i64 k ∧ Hid (Below W.heap.size W wr ∧ wr.rowIs W.heap.size 9 n (Cells.fill (fun j => .string (itoaB (zs.getD j 0))) (.string ByteArray.empty) k))) (fun i _ => n - (intOf i).toNat)
  case atStart => exact ⟨0, Nat.zero_le _, rfl, hS⟩
  case round =>
    obtain ⟨k, hk, rfl, HR⟩ := hrel
    by_cases hlt : k < n
    · have hcx : wr.cell? ⟨vb, k, none⟩ = some (.iface 3 (.int .i64 (zs.getD k 0))) := (HR.out.1.cell (p := ⟨vb, k, none⟩) hvb).trans (HC.out k hlt)
      have hin := getD_in64 HZ.out k
      obtain ⟨z, hzk⟩ : ∃ z, zs.getD k 0 = z := ⟨_, rfl⟩
      rw [hzk] at hcx hin
      have HSS := Lib.hid hzk
      have hne := itoa_ne_null z
      obtain ⟨s, hs⟩ : ∃ s, itoaB z = s := ⟨_, rfl⟩
      have hJ : ∀ w, Below W.heap.size W w → Calls Tryz.prog 31 #[.iface 3 (.int .i64 z)] w fun e w' => e = .returned (.string s) ∧ Below w.heap.size w w' := fun w hw => by
        rw [← hs]
        have ht : Lib.TabBelow Tryz.prog w.heap.size w "internal/strconv.uint64pow10" .u64 Lib.pow10Tab := fun w' hb' => (HTAB.out.on (hw.mono hB)) w' (hb'.mono (Nat.le_trans hB hw.size))
        exact jsonMarshal_int z hin.1 hin.2 w ht
      have HJ := Lib.hid hJ
      have hsn : (s.toList == [110, 117, 108, 108]) = false := by
        have e : s.toList = Lib.itoa z := by rw [← hs]; simp [itoaB]
        rw [e]
        simpa using hne
      have hsn2 : (s.toList != [110, 117, 108, 108]) = true := by simp only [bne, hsn]; rfl
      have HSZ := Lib.hid hs
      clear hzk hin hne hs hJ
      go_wp2_with (go_at_call 31; refine (HJ.out _ HR.out.1).mono ?_)
      rintro e w1 ⟨rfl, hb1⟩
      have hrow := Cells.rowIs_later HR.out.2 hb1
      have hco := Cells.fill_old hrow hlt (Nat.lt_irrefl _)
      have hfo := hrow.frozen k
      have HW := Lib.hid (HR.out.1.trans (hb1.mono HR.out.1.size))
      have HRW := Lib.hid hrow
      clear hb1 hrow hcx
      go_wp2
      go_roundw
      case rel => exact ⟨k + 1, by omega, by go_num, Lib.hid ⟨HW.out.setCell (Nat.le_refl _) _, Cells.fill_set HRW.out _ (by rw [HSS.out, HSZ.out])⟩⟩
      case measure => simp [intOf]; omega
    · obtain rfl : k = n := by omega
      rcases Nat.eq_zero_or_pos k with h0 | h0
      · subst h0
        have he : csvIB zs = ⟨#[]⟩ := by rw [List.eq_nil_of_length_eq_zero hn]; rfl
        have HE := Lib.hid he
        clear he
        go_wp2_with (go_at_call 32; refine (Tryz.strings_Join_none _ _ _ _).mono ?_; rintro e w1 ⟨rfl, rfl⟩)
        go_ret
        exact ⟨by rw [HE.out]; rfl, HR.out.1⟩
      · have hJ := Tryz.strings_Join W.heap.size 0 k (zs.map itoaB) ⟨#[44]⟩ wr (fun j x hj => by
            rw [List.getElem?_map, Option.map_eq_some_iff] at hj
            obtain ⟨s, hs, rfl⟩ := hj
            have hjl : j < k := by rw [← hn]; exact (List.getElem?_eq_some_iff.1 hs).1
            have := Cells.fill_cell HR.out.2 hjl hjl
            rw [Nat.zero_add, this, List.getD_eq_getElem?_getD, hs]
            rfl) HR.out.2.lt (by rw [List.length_map]; omega) (by rw [List.length_map]; omega) (by
            have h1 := glue_lenI zs HZ.out k (by omega)
            have h2 := join_listI zs
            rw [hn] at h2
            show (Lib.join _ [44]).length ≤ _
            rw [h2]
            omega)
        rw [List.length_map, hn] at hJ
        have hjj := csv_joinI zs
        have hd : ((⟨#[44]⟩ : ByteArray).data.toList) = [44] := rfl
        rw [hd, hjj] at hJ
        clear hjj hd
        obtain ⟨z, hz⟩ : ∃ z, csvIB zs = z := ⟨_, rfl⟩
        rw [hz] at hJ
        have HZZ := Lib.hid hz
        clear hz
        go_wp2_with (go_at_call 32; refine hJ.mono ?_; rintro e w1 ⟨rfl, hb1⟩)
        go_ret
        exact ⟨by rw [HZZ.out]; rfl, HR.out.1.trans (hb1.mono HR.out.1.size)⟩

set_option maxRecDepth 100000 in
set_option maxHeartbeats 2000000 in
theorem zzCsvI_any (zs : List Int) (n : Nat) (hn : zs.length = n) (hz : ∀ z ∈ zs, (Lit.int .i64 z).wf = true) (hnb : n ≤ 131072) (v : Value) (B : Nat) (W : World) (hB : B ≤ W.heap.size) (htab : Lib.TabBelow Tryz.prog B W "internal/strconv.uint64pow10" .u64 Lib.pow10Tab) (hv : Cells.At W v (IntF zs) n) :
    Calls Tryz.prog 19 #[v] W fun e w' => e = .returned (.tuple #[.string (csvIB zs), .bool true]) ∧ Below W.heap.size W w' := by
  obtain ⟨a, cap, rfl, hcc⟩ := hv
  have HC := Lib.hid hcc
  have HZ := Lib.hid hz
  have HTAB := Lib.hid htab
  clear hcc hz htab
  have hmk := fun w => run_make_row' (P := Tryz.prog) 37 20 .nilIface 16 Tryz.underlying37 info_anyI rfl .i64 .i64 n (by omega) (by omega) w
  have hS : Hid (Below W.heap.size W (W.alloc (.cells (madeCells #[.nilIface] n) 20)) ∧ (W.alloc (.cells (madeCells #[.nilIface] n) 20)).rowIs W.heap.size 20 n (Cells.fill (fun j => .iface 3 (IntF zs j)) .nilIface 0)) :=
    Lib.hid ⟨(Below.refl _ _).alloc (Nat.le_refl _) _, Cells.fill_start (World.rowIs_made W _ n _)⟩
  go_enter Tryz.func19, Tryz.ntmps19
  go_wp2
  go_loopw [14] (fun i wr => ∃ k : Nat, k ≤ n ∧ i = .int .i64 k ∧ Hid (Below W.heap.size W wr ∧ wr.rowIs W.heap.size 20 n (Cells.fill (fun j => .iface 3 (IntF zs j)) .nilIface k))) (fun i _ => n - (intOf i).toNat)
  case atStart => exact ⟨0, Nat.zero_le _, rfl, hS⟩
  case round =>
    obtain ⟨k, hk, rfl, HR⟩ := hrel
    by_cases hlt : k < n
    · obtain ⟨b, off, rfl, hbl, hcell⟩ := HC.out (by omega)
      have hcx : wr.cell? ⟨b, off + k, none⟩ = some (.int .i64 (zs.getD k 0)) := (HR.out.1.cell (p := ⟨b, off + k, none⟩) hbl).trans (hcell k hlt)
      clear hcell
      obtain ⟨z, hz⟩ : ∃ z, zs.getD k 0 = z := ⟨_, rfl⟩
      rw [hz] at hcx
      have HZ2 := Lib.hid hz
      clear hz
      have hco := Cells.fill_old HR.out.2 hlt (Nat.lt_irrefl _)
      have hfo := HR.out.2.frozen k
      go_wp2
      go_roundw
      case rel => exact ⟨k + 1, by omega, by go_num, Lib.hid ⟨HR.out.1.setCell (Nat.le_refl _) _, Cells.fill_set HR.out.2 _ (by unfold IntF; rw [HZ2.out])⟩⟩
      case measure => simp [intOf]; omega
    · obtain rfl : k = n := by omega
      have hF := formatJoin_int zs k hn HZ.out hnb W.heap.size B wr (Nat.le_trans hB HR.out.1.size) (HTAB.out.on (HR.out.1.mono hB)) HR.out.2.lt (fun i hi => Cells.fill_cell HR.out.2 hi hi)
      obtain ⟨z, hz⟩ : ∃ z, csvIB zs = z := ⟨_, rfl⟩
      rw [hz] at hF
      have HZZ := Lib.hid hz
      clear hz
      go_wp2_with (first | (go_at_call 24; refine hF.mono ?_; rintro e w1 ⟨rfl, hb1⟩) | go_in)
      go_ret2
      exact ⟨by rw [HZZ.out]; rfl, HR.out.1.trans (hb1.mono HR.out.1.size)⟩

theorem zzbI_any (n cap : Nat) (a : Option Addr) (h : n ≤ 1048576) (w : World) : Calls Tryz.prog 18 #[.slice a n cap] w fun e w' => e = .returned (.bool true) ∧ w = w' := by
  go_enter Tryz.func18, Tryz.ntmps18
  go_wp2
  go_ret
  exact ⟨rfl, rfl⟩
theorem zzbI_big (n cap : Nat) (a : Option Addr) (h : 1048576 < n) (w : World) : Calls Tryz.prog 18 #[.slice a n cap] w fun e w' => e = .returned (.bool false) ∧ w = w' := by
  go_enter Tryz.func18, Tryz.ntmps18
  go_wp2
  go_ret
  exact ⟨rfl, rfl⟩
set_option maxRecDepth 100000 in
set_option maxHeartbeats 16000000 in
theorem walk_FnToCSVIntsAreBareDecimals (W : World) (v : Value) (zs : List Int) (hv0 : IntArg W v zs) (hz : ∀ z ∈ zs, (Lit.int .i64 z).wf = true) (htab : Lib.TabIs Tryz.prog W "internal/strconv.uint64pow10" .u64 Lib.pow10Tab) :
    Calls Tryz.prog 7 #[v] W fun e w' => e = .returned (.bool true) ∧ Below W.heap.size W w' := by
  obtain ⟨n, hn⟩ : ∃ n, zs.length = n := ⟨_, rfl⟩
  have hv := at_intArg hv0
  rw [hn] at hv
  have HTAB := Lib.hid (Lib.tabBelow_of_tabIs htab)
  have HZS := Lib.hid hz
  clear hv0 htab hz
  obtain ⟨a, cap, rfl, hcc⟩ := hv
  have HC := Lib.hid hcc
  clear hcc
  have hnil := fun w a n c n' c' => run_neq_slice_nil_any (P := Tryz.prog) w 33 _ a n c n' c' Tryz.underlying33
  by_cases c1 : 1048576 < n
  · go_enter Tryz.func7, Tryz.ntmps7
    go_wp2_with (go_at_call 18; refine (zzbI_big n cap a c1 _).mono ?_; rintro e w' ⟨rfl, rfl⟩)
    go_ret
    exact ⟨rfl, Below.refl _ _⟩
  · have hm : n ≤ 1048576 := by omega
    by_cases c2 : 131072 < n
    · go_enter Tryz.func7, Tryz.ntmps7
      go_wp2_with (go_at_call 18; refine (zzbI_any n cap a hm _).mono ?_; rintro e w' ⟨rfl, rfl⟩)
      go_ret
      exact ⟨rfl, Below.refl _ _⟩
    · have hnb : n ≤ 131072 := by omega
      clear c1 c2
      cases a with
      | none =>
        have h0 : n = 0 := by
          rcases Nat.eq_zero_or_pos n with h | h
          · exact h
          · obtain ⟨b, off, hx, _⟩ := HC.out h
            cases hx
        subst h0
        go_enter Tryz.func7, Tryz.ntmps7
        go_wp2_with (go_at_call 18; refine (zzbI_any 0 cap none (by decide) _).mono ?_; rintro e w' ⟨rfl, rfl⟩)
        refine (zzCsvI_any zs 0 hn HZS.out (by decide) _ W.heap.size _ (Nat.le_refl _) HTAB.out ⟨none, _, rfl, fun h => absurd h (Nat.lt_irrefl _)⟩).mono ?_
        rintro e w1 ⟨rfl, hb1⟩
        have he : csvIB zs = ⟨#[]⟩ := by rw [List.eq_nil_of_length_eq_zero hn]; rfl
        rw [he]
        have HB1 := Lib.hid hb1
        clear hb1 he
        have hcv := fun w => Own.convert_nil (P := Tryz.prog) w 26 9 5 0 Tryz.underlying26 Tryz.underlying5 Tryz.underlying9
        go_wp2_with fail
        go_loop [7, 8] (fun o i => o = .slice none 0 0 ∧ i = .int .i64 0) (fun _ _ => 0)
        case atStart => exact ⟨rfl, rfl⟩
        case round =>
          obtain ⟨rfl, rfl⟩ := hrel
          go_wp2
          go_ret
          exact ⟨rfl, HB1.out⟩
      | some ad =>
        have hmk := fun w => run_make_row' (P := Tryz.prog) 33 3 (.int .i64 0) 8 Tryz.underlying33 info_intI rfl .i64 .i64 n (by omega) (by omega) w
        have hS : Hid (Below W.heap.size W (W.alloc (.cells (madeCells #[.int .i64 0] n) 3)) ∧ (W.alloc (.cells (madeCells #[.int .i64 0] n) 3)).rowIs W.heap.size 3 n (Cells.fill (IntF zs) (.int .i64 0) 0)) :=
          Lib.hid ⟨(Below.refl _ _).alloc (Nat.le_refl _) _, Cells.fill_start (World.rowIs_made W _ n _)⟩
        go_enter Tryz.func7, Tryz.ntmps7
        go_wp2_with (go_at_call 18; refine (zzbI_any n cap (some ad) hm _).mono ?_; rintro e w' ⟨rfl, rfl⟩)
        go_loopw [4] (fun i wr => ∃ j : Nat, j ≤ n ∧ i = .int .i64 j ∧ Hid (Below W.heap.size W wr ∧ wr.rowIs W.heap.size 3 n (Cells.fill (IntF zs) (.int .i64 0) j))) (fun i _ => n - (intOf i).toNat)
        case atStart => exact ⟨0, Nat.zero_le _, rfl, hS⟩
        case round =>
          obtain ⟨j, hj, rfl, HRR⟩ := hrel
          by_cases hjl : j < n
          · obtain ⟨b, off, hx, hbl, hcell⟩ := HC.out (by omega)
            cases hx
            have hcx : wr.cell? ⟨b, off + j, none⟩ = some (.int .i64 (zs.getD j 0)) := (HRR.out.1.cell (p := ⟨b, off + j, none⟩) hbl).trans (hcell j hjl)
            clear hcell
            obtain ⟨z, hz⟩ : ∃ z, zs.getD j 0 = z := ⟨_, rfl⟩
            rw [hz] at hcx
            have HZ := Lib.hid hz
            clear hz
            have hco := Cells.fill_old HRR.out.2 hjl (Nat.lt_irrefl _)
            have hfo := HRR.out.2.frozen j
            go_wp2_with fail
            go_roundw
            case rel => exact ⟨j + 1, by omega, by go_num, Lib.hid ⟨HRR.out.1.setCell (Nat.le_refl _) _, Cells.fill_set HRR.out.2 _ (by unfold IntF; rw [HZ.out])⟩⟩
            case measure => simp [intOf]; omega
          · obtain rfl : n = j := by omega
            go_wp2_with fail
            refine (zzCsvI_any zs n hn HZS.out hnb _ W.heap.size _ HRR.out.1.size (HTAB.out.on HRR.out.1) (Cells.fill_at HRR.out.2)).mono ?_
            rintro e w1 ⟨rfl, hb1⟩
            have HRW := Lib.hid (Cells.rowIs_later HRR.out.2 hb1)
            have HB1 := Lib.hid (HRR.out.1.trans (hb1.mono HRR.out.1.size))
            clear hb1 HRR
            obtain ⟨zb, hzb⟩ : ∃ zb, csvIB zs = zb := ⟨_, rfl⟩
            rw [hzb]
            have HZZ := Lib.hid hzb
            clear hzb
            go_wp2_with fail
            go_loopw [7, 8] (fun o i wr => ∃ k : Nat, k ≤ n ∧ i = .int .i64 k ∧ Hid (Own.Buf 5 w1.heap.size w1 wr o (Esc.glue (zs.map Lib.itoa) [44] k))) (fun _ i _ => n - (intOf i).toNat)
            case atStart => exact ⟨0, Nat.zero_le _, rfl, Lib.hid (Own.Buf.nil (Below.refl _ _) (Nat.le_refl _))⟩
            case round =>
              obtain ⟨k, hk, rfl, HR⟩ := hrel
              by_cases hlt : k < n
              · have hin := getD_in64 HZS.out k
                have hgl := glue_lenI zs HZS.out k (by omega)
                have hgs : Esc.glue (zs.map Lib.itoa) [44] (k + 1) = (Esc.glue (zs.map Lib.itoa) [44] k ++ (if k = 0 then [] else [44])) ++ Lib.itoa (zs.getD k 0) := by
                  show Esc.glue (zs.map Lib.itoa) [44] k ++ ((if k = 0 then [] else [44]) ++ (zs.map Lib.itoa).getD k []) = _
                  rw [getD_mapI zs k (by omega), List.append_assoc]
                have hcx0 := Cells.fill_cell HRW.out hlt hlt
                unfold IntF at hcx0
                obtain ⟨z, hz⟩ : ∃ z, zs.getD k 0 = z := ⟨_, rfl⟩
                rw [hz] at hin hgs hcx0
                have hcx : wr.cell? ⟨W.heap.size, k, none⟩ = some (.int .i64 z) := (HR.out.below.cell (p := ⟨W.heap.size, k, none⟩) HRW.out.lt).trans hcx0
                have hit := fun w => itoaR_any z hin.1 hin.2 w
                have hil := itoa_len hin
                obtain ⟨s, hs⟩ : ∃ s : ByteArray, (⟨(Lib.itoa z).toArray⟩ : ByteArray) = s := ⟨_, rfl⟩
                have hzl : s.data.toList = Lib.itoa z := by rw [← hs]
                rw [hs] at hit
                have HIT := Lib.hid hit
                have HIL := Lib.hid hil
                have HZL := Lib.hid hzl
                clear hit hil hs hzl hcx0 hz hin
                by_cases k0 : k = 0
                · obtain ⟨X, hX⟩ : ∃ X, Esc.glue (zs.map Lib.itoa) [44] k ++ (if k = 0 then [] else [44]) = X := ⟨_, rfl⟩
                  have hXe : Esc.glue (zs.map Lib.itoa) [44] k = X := by rw [← hX, if_pos k0, List.append_nil]
                  rw [hX] at hgs
                  rw [hXe] at HR hgl
                  have hXl : X.length ≤ 8388608 := by omega
                  have HGS := Lib.hid hgs
                  have HX := HR
                  have hk0 : ¬ ((0 : Int) < (k : Int)) := by omega
                  have K0 := Lib.hid k0
                  clear hgs hX hXe hgl k0
                  have HLEN := Lib.hid (show X.length ≤ 8388608 from hXl)
                  go_wp2_with (first
                    | (go_at_call 20; refine (HIT.out _).mono ?_; rintro e w3 ⟨rfl, hb3⟩)
                    | (at_builtin; refine Own.wpList_buf_str rfl _ _ 26 9 rfl 5 Tryz.underlying26 Tryz.underlying9 info_u8e w1.heap.size w1 _ _ rfl (HX.out.later hb3) s (Lib.itoa z) rfl HZL.out (by have h0 := HLEN.out; have h1 := HIL.out; omega) ?_))
                  intro v2 w2 hb2
                  replace hb2 := Lib.hid (show Own.Buf 5 w1.heap.size w1 w2 v2 (Esc.glue (zs.map Lib.itoa) [44] (k + 1)) from by rw [HGS.out]; simpa using hb2)
                  go_wp2
                  go_roundw
                  case rel => exact ⟨k + 1, by omega, by go_num, hb2⟩
                  case measure => simp [intOf]; omega
                · obtain ⟨X, hX⟩ : ∃ X, Esc.glue (zs.map Lib.itoa) [44] k ++ (if k = 0 then [] else [44]) = X := ⟨_, rfl⟩
                  have hXe : Esc.glue (zs.map Lib.itoa) [44] k ++ [44] = X := by rw [← hX, if_neg k0]
                  rw [hX] at hgs
                  have hXl : X.length ≤ 8388608 := by rw [← hXe, List.length_append, List.length_singleton]; omega
                  have HGS := Lib.hid hgs
                  clear hgs hX
                  have hk0 : (0 : Int) < (k : Int) := by omega
                  go_wp2_with (at_builtin; refine Own.wpList_buf_bytes rfl _ _ 26 rfl 5 Tryz.underlying26 info_u8e w1.heap.size w1 _ _ rfl (HR.out.alloc _) ⟨wr.heap.size, 0, none⟩ 1 1 [44] rfl rfl (Own.new_cells _ _ _ _ rfl) (by simp only [List.length_cons, List.length_nil]; omega) ?_)
                  intro v0 wx hbx
                  try rw [hXe] at hbx
                  have hcx2 : wx.cell? ⟨W.heap.size, k, none⟩ = some (.int .i64 z) := (hbx.below.cell (p := ⟨W.heap.size, k, none⟩) HRW.out.lt).trans ((HR.out.below.cell (p := ⟨W.heap.size, k, none⟩) HRW.out.lt).symm.trans hcx)
                  have HX := Lib.hid hbx
                  clear hbx hXe hgl hcx
                  have HLEN := Lib.hid (show X.length ≤ 8388608 from hXl)
                  go_wp2_with (first
                    | (go_at_call 20; refine (HIT.out _).mono ?_; rintro e w3 ⟨rfl, hb3⟩)
                    | (at_builtin; refine Own.wpList_buf_str rfl _ _ 26 9 rfl 5 Tryz.underlying26 Tryz.underlying9 info_u8e w1.heap.size w1 _ _ rfl (HX.out.later hb3) s (Lib.itoa z) rfl HZL.out (by have h0 := HLEN.out; have h1 := HIL.out; omega) ?_))
                  intro v2 w2 hb2
                  replace hb2 := Lib.hid (show Own.Buf 5 w1.heap.size w1 w2 v2 (Esc.glue (zs.map Lib.itoa) [44] (k + 1)) from by rw [HGS.out]; simpa using hb2)
                  go_wp2
                  go_roundw
                  case rel => exact ⟨k + 1, by omega, by go_num, hb2⟩
                  case measure => simp [intOf]; omega
              · obtain rfl : k = n := by omega
                have hcv := Own.own_text (P := Tryz.prog) 26 9 5 Tryz.underlying26 Tryz.underlying5 Tryz.underlying9 HR.out.row
                have hzz : (⟨(Esc.glue (zs.map Lib.itoa) [44] k).toArray⟩ : ByteArray) = zb := by rw [← HZZ.out]; unfold csvIB; rw [hn]
                rw [hzz] at hcv
                clear hzz
                go_wp2
                go_ret
                exact ⟨rfl, HB1.out.trans (HR.out.below.mono HB1.out.size)⟩
end Go.Proofs.YtbmnbppljnddjaaGreatFmt
