/- Walks of @csv over rows of strings: csvEscape, the closure that quotes, formatJoin, the wrapper; the law. -/
import Derived.Test.YtbmnbppljnddjaaGreatFmtFacts
import Derived.Test.YtbmnbppljnddjaaGreatFmtOwn
import Derived.Test.YtbmnbppljnddjaaGreatFmtEsc
import Derived.Test.YtbmnbppljnddjaaGreatFmtStr
import Derived.Test.YtbmnbppljnddjaaGreatFmtCells
import Derived.Test.YtbmnbppljnddjaaGreatFmtArgs
import Derived.Test.YtbmnbppljnddjaaGreatFmtShelf
import Derived.Handy
import Derived.WalkSpells
import Derived.WalkSmall
import Derived.Deep.LoopGhost
import Derived.Deep.QuietTactic
import Derived.BigQuiet
import Derived.Lib.Hide
namespace Go.Proofs.YtbmnbppljnddjaaGreatFmt
open Go.RowKit Go.Deep


theorem info_u8c : (Tryz.prog.info? 5).map (fun i => (i.zero, i.size, i.bytes)) = some (some (.int .u8 0), 1, 1) := by kernel_rfl

set_option maxHeartbeats 4000000 in
theorem csvEscape_any (s : ByteArray) (n : Nat) (hn : s.size = n) (hs : n ≤ 1048576) (W : World) :
    Calls Tryz.prog 26 #[.string s] W fun e w' => e = .returned (.string ⟨(s.data.toList.flatMap Esc.csvF).toArray⟩) ∧ Below W.heap.size W w' := by
  have hl : s.data.toList.length = n := hn
  go_enter Tryz.func26, Tryz.ntmps26
  go_wp2
  go_loopw [3, 4] (fun v i wr => ∃ k : Nat, k ≤ n ∧ i = .int .i64 k ∧ Hid (Own.Buf 5 W.heap.size W wr v ((s.data.toList.take k).flatMap Esc.csvF))) (fun _ i _ => n - (intOf i).toNat)
  case atStart => exact ⟨0, Nat.zero_le _, rfl, Lib.hid (Own.Buf.nil (Below.refl _ _) (Nat.le_refl _))⟩
  case round =>
    obtain ⟨k, hk, rfl, HB⟩ := hrel
    by_cases hlt : k < n
    · have hi0 := fun w => Str.idx_str (P := Tryz.prog) 9 Tryz.underlying9 s .i64 (k : Int) k rfl (by omega) w
      have H1 := Lib.hid (Own.flat_take_len Esc.csvF 2 Esc.csvF_len s.data.toList k)
      have hnext := Own.flat_take Esc.csvF s.data.toList k (by omega)
      obtain ⟨c, hc⟩ : ∃ c, s.data.toList.getD k 0 = c := ⟨_, rfl⟩
      rw [hc] at hi0 hnext
      have H2 := Lib.hid hnext
      clear hnext hc
      rcases Esc.csv_cases c with rfl | rfl | ⟨d0, d1, hF⟩
      · have hidx : ∀ w, (Instr.index 9 (.string s) (.int .i64 (k : Int))).run Tryz.prog w = .ok (.int .u8 34) w := hi0
        clear hi0
        go_wp2_with (at_builtin; refine Own.wpList_buf_str rfl _ _ 26 9 rfl 5 Tryz.underlying26 Tryz.underlying9 info_u8c W.heap.size W _ _ rfl HB.out _ [34, 34] rfl rfl (by have := H1.out; simp only [List.length_cons, List.length_nil]; omega) ?_)
        intro v' w' hb'
        replace hb' := Lib.hid (show Own.Buf 5 W.heap.size W w' v' ((s.data.toList.take (k + 1)).flatMap Esc.csvF) from by rw [H2.out]; exact hb')
        clear hidx
        go_wp2
        go_roundw
        case rel => exact ⟨k + 1, by omega, by go_num, hb'⟩
        case measure => simp [intOf]; omega
      · have hidx : ∀ w, (Instr.index 9 (.string s) (.int .i64 (k : Int))).run Tryz.prog w = .ok (.int .u8 0) w := hi0
        clear hi0
        go_wp2_with (at_builtin; refine Own.wpList_buf_str rfl _ _ 26 9 rfl 5 Tryz.underlying26 Tryz.underlying9 info_u8c W.heap.size W _ _ rfl HB.out _ [92, 48] rfl rfl (by have := H1.out; simp only [List.length_cons, List.length_nil]; omega) ?_)
        intro v' w' hb'
        replace hb' := Lib.hid (show Own.Buf 5 W.heap.size W w' v' ((s.data.toList.take (k + 1)).flatMap Esc.csvF) from by rw [H2.out]; exact hb')
        clear hidx
        go_wp2
        go_roundw
        case rel => exact ⟨k + 1, by omega, by go_num, hb'⟩
        case measure => simp [intOf]; omega
      · have hn1 := c.toNat_lt
        have e0 : ((c.toNat : Int) == 34) = false := by simp; omega
        have e1 : ((c.toNat : Int) == 0) = false := by simp; omega
        rw [hF] at H2
        clear hF
        go_wp2_with (at_builtin; refine Own.wpList_buf_bytes rfl _ _ 26 rfl 5 Tryz.underlying26 info_u8c W.heap.size W _ _ rfl (HB.out.alloc _) ⟨wr.heap.size, 0, none⟩ 1 1 [c] rfl rfl (Own.new_cells _ _ _ _ rfl) (by have := H1.out; simp only [List.length_cons, List.length_nil]; omega) ?_)
        intro v' w' hb'
        replace hb' := Lib.hid (show Own.Buf 5 W.heap.size W w' v' ((s.data.toList.take (k + 1)).flatMap Esc.csvF) from by rw [H2.out]; exact hb')
        clear hi0 d0 e0 d1 e1 hn1
        go_wp2
        go_roundw
        case rel => exact ⟨k + 1, by omega, by go_num, hb'⟩
        case measure => simp [intOf]; omega
    · obtain rfl : k = n := by omega
      have hcv := Own.own_text (P := Tryz.prog) 26 9 5 Tryz.underlying26 Tryz.underlying5 Tryz.underlying9 HB.out.row
      rw [List.take_of_length_le (by omega)] at hcv
      go_wp2
      go_ret
      exact ⟨rfl, HB.out.below⟩

/-- A field as it is written. -/
def fieldL (s : ByteArray) : List UInt8 := 34 :: (s.data.toList.flatMap Esc.csvF ++ [34])
def fieldB (s : ByteArray) : ByteArray := ⟨(fieldL s).toArray⟩
theorem fieldL_len (s : ByteArray) : (fieldL s).length ≤ 2 * s.size + 2 := by
  have h := Own.flat_len Esc.csvF 2 Esc.csvF_len s.data.toList
  have e : s.data.toList.length = s.size := rfl
  unfold fieldL
  rw [List.length_cons, List.length_append, List.length_singleton]
  omega
set_option maxHeartbeats 1000000 in
theorem csvClos_any (s : ByteArray) (n : Nat) (hn : s.size = n) (hs : n ≤ 1048576) (W : World) :
    Calls Tryz.prog 25 #[.string s] W fun e w' => e = .returned (.string (fieldB s)) ∧ Below W.heap.size W w' := by
  have hE := csvEscape_any s n hn hs
  have hL := Own.flat_len Esc.csvF 2 Esc.csvF_len s.data.toList
  have hsl : s.data.toList.length = n := hn
  obtain ⟨q, hq⟩ : ∃ q, s.data.toList.flatMap Esc.csvF = q := ⟨_, rfl⟩
  have hf : fieldB s = ⟨(34 :: (q ++ [34])).toArray⟩ := by unfold fieldB fieldL; rw [hq]
  rw [hq] at hE hL
  have hq2 : q.length ≤ 2097152 := by omega
  have hz : (⟨#[34]⟩ : ByteArray) ++ ⟨q.toArray⟩ ++ ⟨#[34]⟩ = fieldB s := by rw [hf, ByteArray.mk_append_mk, ByteArray.mk_append_mk]; simp
  obtain ⟨x, hx⟩ : ∃ x, (⟨q.toArray⟩ : ByteArray) = x := ⟨_, rfl⟩
  have hxs : x.size ≤ 2097152 := by rw [← hx]; simpa [ByteArray.size] using hq2
  obtain ⟨m, hm⟩ : ∃ m, x.size = m := ⟨_, rfl⟩
  rw [hm] at hxs
  rw [hx] at hE hz
  generalize fieldB s = z at hz ⊢
  have HZ := Lib.hid hz
  clear hf hq hL hn hs hsl hq2 hz hx
  go_enter Tryz.func25, Tryz.ntmps25
  go_wp2_with (go_at_call 26; refine (hE _).mono ?_; rintro e w' ⟨rfl, hb⟩)
  go_ret
  exact ⟨by rw [← HZ.out]; rfl, hb⟩

theorem info_str : (Tryz.prog.info? 9).map (fun i => (i.zero, i.size, i.bytes)) = some (some (.string ByteArray.empty), 1, 16) := by kernel_rfl
theorem info_any : (Tryz.prog.info? 20).map (fun i => (i.zero, i.size, i.bytes)) = some (some .nilIface, 1, 16) := by kernel_rfl
/-- The bytes of the first k texts, 16 for each besides. -/
def totB (ss : List ByteArray) : Nat → Nat
  | 0 => 0
  | k + 1 => totB ss k + ((ss.getD k ByteArray.empty).size + 16)
theorem totB_mono (ss : List ByteArray) (k : Nat) : ∀ d, totB ss k ≤ totB ss (k + d)
  | 0 => Nat.le_refl _
  | d + 1 => by
    have := totB_mono ss k d
    show _ ≤ totB ss (k + d) + _
    omega
theorem totB_size (ss : List ByteArray) (i n : Nat) (h : i < n) : (ss.getD i ByteArray.empty).size + 16 ≤ totB ss n := by
  have h1 := totB_mono ss (i + 1) (n - (i + 1))
  rw [show i + 1 + (n - (i + 1)) = n from by omega] at h1
  have : totB ss (i + 1) = totB ss i + ((ss.getD i ByteArray.empty).size + 16) := rfl
  omega
theorem getD_map (ss : List ByteArray) (k : Nat) (h : k < ss.length) : (ss.map fieldL).getD k [] = fieldL (ss.getD k ByteArray.empty) := by
  rw [List.getD_eq_getElem?_getD, List.getD_eq_getElem?_getD, List.getElem?_map, List.getElem?_eq_getElem h]
  rfl
theorem glue_len (ss : List ByteArray) : ∀ k, k ≤ ss.length → (Esc.glue (ss.map fieldL) [44] k).length ≤ 2 * totB ss k
  | 0, _ => Nat.le_refl _
  | k + 1, h => by
    have h1 := glue_len ss k (by omega)
    have h2 := fieldL_len (ss.getD k ByteArray.empty)
    show (Esc.glue (ss.map fieldL) [44] k ++ ((if k = 0 then [] else [44]) ++ (ss.map fieldL).getD k [])).length ≤ 2 * (totB ss k + ((ss.getD k ByteArray.empty).size + 16))
    rw [List.length_append, List.length_append, getD_map ss k (by omega)]
    have h3 : (if k = 0 then ([] : List UInt8) else [44]).length ≤ 1 := by split <;> decide
    omega
def csvB (ss : List ByteArray) : ByteArray := ⟨(Esc.glue (ss.map fieldL) [44] ss.length).toArray⟩
theorem join_list (ss : List ByteArray) : Lib.join ((ss.map fieldB).map (·.data.toList)) [44] = Esc.glue (ss.map fieldL) [44] ss.length := by
  rw [List.map_map]
  have e : (ss.map ((fun x : ByteArray => x.data.toList) ∘ fieldB)) = ss.map fieldL := by
    apply List.map_congr_left
    intro s _
    rfl
  rw [e, ← Esc.glue_all, List.length_map]
theorem csv_join (ss : List ByteArray) : (⟨(Lib.join ((ss.map fieldB).map (·.data.toList)) [44]).toArray⟩ : ByteArray) = csvB ss := by
  rw [join_list]
  rfl

set_option maxHeartbeats 4000000 in
theorem formatJoin_str (ss : List ByteArray) (n : Nat) (hn : ss.length = n) (ht : totB ss n ≤ 1048576) (vb : Nat) (W : World)
    (hvb : vb < W.heap.size) (hcell : ∀ i, i < n → W.cell? ⟨vb, i, none⟩ = some (.iface 9 (.string (ss.getD i ByteArray.empty)))) :
    Calls Tryz.prog 24 #[.string ⟨#[99, 115, 118]⟩, .iface 37 (.slice (some ⟨vb, 0, none⟩) n n), .string ⟨#[44]⟩, .func (.func 25) #[] #[]] W
      fun e w' => e = .returned (.iface 9 (.string (csvB ss))) ∧ Below W.heap.size W w' := by
  have HC := Lib.hid hcell
  clear hcell
  have hnb : n ≤ 65536 := by
    rcases Nat.eq_zero_or_pos n with h | h
    · omega
    · have h1 : ∀ k, 16 * k ≤ totB ss k := fun k => by
        induction k with
        | zero => exact Nat.zero_le _
        | succ k ih => show 16 * (k + 1) ≤ totB ss k + _; omega
      have := h1 n
      omega
  have HT := Lib.hid ht
  clear ht
  have hmk := fun w => run_make_row' (P := Tryz.prog) 22 9 (.string ByteArray.empty) 16 Tryz.underlying22 info_str rfl .i64 .i64 n (by omega) (by omega) w
  have hS : Hid (Below W.heap.size W (W.alloc (.cells (madeCells #[.string ByteArray.empty] n) 9)) ∧ (W.alloc (.cells (madeCells #[.string ByteArray.empty] n) 9)).rowIs W.heap.size 9 n (Cells.fill (fun j => .string (fieldB (ss.getD j ByteArray.empty))) (.string ByteArray.empty) 0)) :=
    Lib.hid ⟨(Below.refl _ _).alloc (Nat.le_refl _) _, Cells.fill_start (World.rowIs_made W _ n _)⟩
  go_enter Tryz.func24, Tryz.ntmps24
  go_wp2
  go_loopw [36] (fun i wr => ∃ k : Nat, k ≤ n ∧ i = .int .i64 k ∧ Hid (Below W.heap.size W wr ∧ wr.rowIs W.heap.size 9 n (Cells.fill (fun j => .string (fieldB (ss.getD j ByteArray.empty))) (.string ByteArray.empty) k))) (fun i _ => n - (intOf i).toNat)
  case atStart => exact ⟨0, Nat.zero_le _, rfl, hS⟩
  case round =>
    obtain ⟨k, hk, rfl, HR⟩ := hrel
    by_cases hlt : k < n
    · have hcx : wr.cell? ⟨vb, k, none⟩ = some (.iface 9 (.string (ss.getD k ByteArray.empty))) := (HR.out.1.cell (p := ⟨vb, k, none⟩) hvb).trans (HC.out k hlt)
      have hsz := totB_size ss k n hlt
      obtain ⟨s, hs⟩ : ∃ s, ss.getD k ByteArray.empty = s := ⟨_, rfl⟩
      rw [hs] at hcx hsz
      have HSS := Lib.hid hs
      have hs2 : s.size ≤ 1048576 := by have := HT.out; omega
      clear hs hsz
      go_wp2_with fail
      refine (csvClos_any s s.size rfl hs2 _).mono ?_
      rintro e w1 ⟨rfl, hb1⟩
      have hrow := Cells.rowIs_later HR.out.2 hb1
      have hco := Cells.fill_old hrow hlt (Nat.lt_irrefl _)
      have hfo := hrow.frozen k
      have HW := Lib.hid (HR.out.1.trans (hb1.mono HR.out.1.size))
      have HRW := Lib.hid hrow
      clear hb1 hrow hcx
      obtain ⟨z, hz⟩ : ∃ z, fieldB s = z := ⟨_, rfl⟩
      rw [hz]
      have HZ := Lib.hid hz
      clear hz hs2
      go_wp2
      go_roundw
      case rel => exact ⟨k + 1, by omega, by go_num, Lib.hid ⟨HW.out.setCell (Nat.le_refl _) _, Cells.fill_set HRW.out _ (by rw [HSS.out, HZ.out])⟩⟩
      case measure => simp [intOf]; omega
    · obtain rfl : k = n := by omega
      rcases Nat.eq_zero_or_pos k with h0 | h0
      · subst h0
        have he : csvB ss = ⟨#[]⟩ := by rw [List.eq_nil_of_length_eq_zero hn]; rfl
        have HE := Lib.hid he
        clear he
        go_wp2_with (go_at_call 32; refine (Tryz.strings_Join_none _ _ _ _).mono ?_; rintro e w1 ⟨rfl, rfl⟩)
        go_ret
        exact ⟨by rw [HE.out]; rfl, HR.out.1⟩
      · have hJ := Tryz.strings_Join W.heap.size 0 k (ss.map fieldB) ⟨#[44]⟩ wr (fun j x hj => by
            rw [List.getElem?_map, Option.map_eq_some_iff] at hj
            obtain ⟨s, hs, rfl⟩ := hj
            have hjl : j < k := by rw [← hn]; exact (List.getElem?_eq_some_iff.1 hs).1
            have := Cells.fill_cell HR.out.2 hjl hjl
            rw [Nat.zero_add, this, List.getD_eq_getElem?_getD, hs]
            rfl) HR.out.2.lt (by rw [List.length_map]; omega) (by rw [List.length_map]; omega) (by
            have h1 := glue_len ss k (by omega)
            have h2 := join_list ss
            rw [hn] at h2
            have h3 := HT.out
            show (Lib.join _ [44]).length ≤ _
            rw [h2]
            omega)
        rw [List.length_map, hn] at hJ
        have hjj := csv_join ss
        have hd : ((⟨#[44]⟩ : ByteArray).data.toList) = [44] := rfl
        rw [hd, hjj] at hJ
        clear hjj hd
        obtain ⟨z, hz⟩ : ∃ z, csvB ss = z := ⟨_, rfl⟩
        rw [hz] at hJ
        have HZ := Lib.hid hz
        clear hz
        go_wp2_with (go_at_call 32; refine hJ.mono ?_; rintro e w1 ⟨rfl, hb1⟩)
        go_ret
        exact ⟨by rw [HZ.out]; rfl, HR.out.1.trans (hb1.mono HR.out.1.size)⟩

def StrF (ss : List ByteArray) : Nat → Value := fun i => .string (ss.getD i ByteArray.empty)
set_option maxHeartbeats 2000000 in
theorem zzCsv_any (ss : List ByteArray) (n : Nat) (hn : ss.length = n) (ht : totB ss n ≤ 1048576) (hnb : n ≤ 65536) (v : Value) (W : World) (hv : Cells.At W v (StrF ss) n) :
    Calls Tryz.prog 9 #[v] W fun e w' => e = .returned (.tuple #[.string (csvB ss), .bool true]) ∧ Below W.heap.size W w' := by
  obtain ⟨a, cap, rfl, hcc⟩ := hv
  have HC := Lib.hid hcc
  clear hcc
  have HT := Lib.hid ht
  clear ht
  have hmk := fun w => run_make_row' (P := Tryz.prog) 37 20 .nilIface 16 Tryz.underlying37 info_any rfl .i64 .i64 n (by omega) (by omega) w
  have hS : Hid (Below W.heap.size W (W.alloc (.cells (madeCells #[.nilIface] n) 20)) ∧ (W.alloc (.cells (madeCells #[.nilIface] n) 20)).rowIs W.heap.size 20 n (Cells.fill (fun j => .iface 9 (StrF ss j)) .nilIface 0)) :=
    Lib.hid ⟨(Below.refl _ _).alloc (Nat.le_refl _) _, Cells.fill_start (World.rowIs_made W _ n _)⟩
  go_enter Tryz.func9, Tryz.ntmps9
  go_wp2
  go_loopw [14] (fun i wr => ∃ k : Nat, k ≤ n ∧ i = .int .i64 k ∧ Hid (Below W.heap.size W wr ∧ wr.rowIs W.heap.size 20 n (Cells.fill (fun j => .iface 9 (StrF ss j)) .nilIface k))) (fun i _ => n - (intOf i).toNat)
  case atStart => exact ⟨0, Nat.zero_le _, rfl, hS⟩
  case round =>
    obtain ⟨k, hk, rfl, HR⟩ := hrel
    by_cases hlt : k < n
    · obtain ⟨b, off, rfl, hbl, hcell⟩ := HC.out (by omega)
      have hcx : wr.cell? ⟨b, off + k, none⟩ = some (.string (ss.getD k ByteArray.empty)) := (HR.out.1.cell (p := ⟨b, off + k, none⟩) hbl).trans (hcell k hlt)
      clear hcell
      obtain ⟨z, hz⟩ : ∃ z, ss.getD k ByteArray.empty = z := ⟨_, rfl⟩
      rw [hz] at hcx
      have HZ := Lib.hid hz
      clear hz
      have hco := Cells.fill_old HR.out.2 hlt (Nat.lt_irrefl _)
      have hfo := HR.out.2.frozen k
      go_wp2
      go_roundw
      case rel => exact ⟨k + 1, by omega, by go_num, Lib.hid ⟨HR.out.1.setCell (Nat.le_refl _) _, Cells.fill_set HR.out.2 _ (by unfold StrF; rw [HZ.out])⟩⟩
      case measure => simp [intOf]; omega
    · obtain rfl : k = n := by omega
      have hF := formatJoin_str ss k hn HT.out W.heap.size wr HR.out.2.lt (fun i hi => Cells.fill_cell HR.out.2 hi hi)
      obtain ⟨z, hz⟩ : ∃ z, csvB ss = z := ⟨_, rfl⟩
      rw [hz] at hF
      have HZ := Lib.hid hz
      clear hz
      go_wp2_with (first | (go_at_call 24; refine hF.mono ?_; rintro e w1 ⟨rfl, hb1⟩) | go_in)
      go_ret2
      exact ⟨by rw [HZ.out]; rfl, HR.out.1.trans (hb1.mono HR.out.1.size)⟩

def ZzEnd (ss : List ByteArray) (n : Nat) (W : World) (e : Ending) (w' : World) : Prop :=
  ∃ b, e = .returned (.bool b) ∧ (b = true → n ≤ 1048576 ∧ ∀ i, i < n → (ss.getD i ByteArray.empty).size ≤ 1048576) ∧ W = w'
set_option maxRecDepth 100000 in
set_option maxHeartbeats 2000000 in
theorem zzbC_any (ss : List ByteArray) (n : Nat) (v : Value) (hsz : ∀ i, i < n → (ss.getD i ByteArray.empty).size ≤ 9223372036854775807) (W : World) (hv : Cells.At W v (StrF ss) n) :
    Calls Tryz.prog 8 #[v] W (ZzEnd ss n W) := by
  obtain ⟨a, cap, rfl, hcc⟩ := hv
  have HC := Lib.hid hcc
  have HSZ := Lib.hid hsz
  clear hcc hsz
  by_cases c1 : 1048576 < n
  · go_enter Tryz.func8, Tryz.ntmps8
    go_wp2
    go_ret
    exact ⟨false, rfl, (fun h => by cases h), rfl⟩
  · have c2 : n ≤ 1048576 := by omega
    go_enter Tryz.func8, Tryz.ntmps8
    go_wp2
    go_loop [3, 4] (fun t i => ∃ k s : Nat, k ≤ n ∧ s ≤ 1048576 ∧ t = .int .i64 s ∧ i = .int .i64 k ∧ Hid (∀ j, j < k → (ss.getD j ByteArray.empty).size ≤ 1048576)) (fun _ i => n - (intOf i).toNat)
    case atStart => exact ⟨0, n, Nat.zero_le _, c2, by go_num, rfl, Lib.hid fun j hj => absurd hj (by omega)⟩
    case round =>
      obtain ⟨k, t, hk, ht, rfl, rfl, HR⟩ := hrel
      by_cases hlt : k < n
      · obtain ⟨b, off, rfl, hbl, hcell⟩ := HC.out (by omega)
        have hcx := hcell k hlt
        unfold StrF at hcx
        clear hcell
        have hzs := HSZ.out k hlt
        obtain ⟨z, hz⟩ : ∃ z, ss.getD k ByteArray.empty = z := ⟨_, rfl⟩
        rw [hz] at hcx hzs
        have HZ := Lib.hid hz
        clear hz
        obtain ⟨m, hm⟩ : ∃ m, z.size = m := ⟨_, rfl⟩
        rw [hm] at hzs
        by_cases c3 : 1048576 < m
        · go_wp2
          go_ret
          exact ⟨false, rfl, (fun h => by cases h), rfl⟩
        · by_cases c4 : 1048576 < t + m
          · go_wp2
            go_ret
            exact ⟨false, rfl, (fun h => by cases h), rfl⟩
          · go_wp2
            go_round
            case rel => exact ⟨k + 1, t + m, by omega, by omega, by go_num, by go_num, Lib.hid fun j hj => by
              by_cases cj : j = k
              · subst cj; rw [HZ.out, hm]; omega
              · exact HR.out j (by omega)⟩
            case measure => simp [intOf]; omega
      · obtain rfl : k = n := by omega
        go_wp2
        go_ret
        exact ⟨true, rfl, fun _ => ⟨c2, HR.out⟩, rfl⟩

theorem at_strArg {w : World} {v : Value} {ss : List ByteArray} (h : StrArg w v ss) : Cells.At w v (StrF ss) ss.length := by
  rcases h with ⟨rfl, rfl⟩ | ⟨a, cap, rfl, rfl⟩ | ⟨b, off, cap, rfl, h0, hb, hc⟩
  · exact ⟨_, _, rfl, fun h => absurd h (by simp)⟩
  · exact ⟨_, _, rfl, fun h => absurd h (by simp)⟩
  · exact ⟨_, _, rfl, fun _ => ⟨b, off, rfl, hb, hc⟩⟩
theorem glue_step (ss : List ByteArray) (k : Nat) (h : k < ss.length) (s : ByteArray) (hs : ss.getD k ByteArray.empty = s) :
    Esc.glue (ss.map fieldL) [44] (k + 1) = (Esc.glue (ss.map fieldL) [44] k ++ (if k = 0 then [] else [44])) ++ [34] ++ s.data.toList.flatMap Esc.csvF ++ [34] := by
  show Esc.glue (ss.map fieldL) [44] k ++ ((if k = 0 then [] else [44]) ++ (ss.map fieldL).getD k []) = _
  rw [getD_map ss k h, hs]
  unfold fieldL
  simp [List.append_assoc]

set_option maxRecDepth 100000 in
set_option maxHeartbeats 16000000 in
theorem walk_FnToCSVQuotesEveryStringField (W : World) (v : Value) (ss : List ByteArray) (hv0 : StrArg W v ss) (hz0 : ∀ s ∈ ss, s.size ≤ maxLen) :
    Calls Tryz.prog 3 #[v] W fun e w' => e = .returned (.bool true) ∧ Below W.heap.size W w' := by
  obtain ⟨n, hn⟩ : ∃ n, ss.length = n := ⟨_, rfl⟩
  have hv := at_strArg hv0
  rw [hn] at hv
  have hz : ∀ i, i < n → (ss.getD i ByteArray.empty).size ≤ 9223372036854775807 := fun i hi => by
    have h1 : i < ss.length := by omega
    have h2 := hz0 (ss[i]) (List.getElem_mem h1)
    rw [List.getD_eq_getElem?_getD, List.getElem?_eq_getElem h1]
    exact h2
  clear hv0 hz0
  have ZZ := zzbC_any ss n v hz W hv
  clear hz
  obtain ⟨a, cap, rfl, hcc⟩ := hv
  have HC := Lib.hid hcc
  clear hcc
  have hnil := fun w a n c n' c' => run_neq_slice_nil_any (P := Tryz.prog) w 22 _ a n c n' c' Tryz.underlying22
  go_enter Tryz.func3, Tryz.ntmps3
  go_wp2_with fail
  refine ZZ.mono ?_
  rintro e w' ⟨b, rfl, hb, rfl⟩
  clear ZZ
  cases b with
  | false =>
    go_wp2
    go_ret
    exact ⟨rfl, Below.refl _ _⟩
  | true =>
    obtain ⟨hm, hsz2⟩ := hb rfl
    have HS2 := Lib.hid hsz2
    clear hb hsz2
    by_cases c2 : 65536 < n
    · go_wp2_with fail
      go_ret
      exact ⟨rfl, Below.refl _ _⟩
    · have hn65' : n ≤ 65536 := by omega
      clear c2 hm
      go_wp2_with fail
      go_loop [3, 4] (fun t i => ∃ k s : Nat, k ≤ n ∧ s ≤ 1048576 ∧ t = .int .i64 s ∧ i = .int .i64 k ∧ Hid (totB ss k = s)) (fun _ i => n - (intOf i).toNat)
      case atStart => exact ⟨0, 0, Nat.zero_le _, Nat.zero_le _, rfl, rfl, Lib.hid rfl⟩
      case round =>
        obtain ⟨k, t, hk, ht, rfl, rfl, HTK⟩ := hrel
        by_cases hlt : k < n
        · obtain ⟨b, off, rfl, hbl, hcell⟩ := HC.out (by omega)
          have hcx := hcell k hlt
          unfold StrF at hcx
          clear hcell
          have hzs := HS2.out k hlt
          obtain ⟨z, hz⟩ : ∃ z, ss.getD k ByteArray.empty = z := ⟨_, rfl⟩
          rw [hz] at hcx hzs
          have HZ := Lib.hid hz
          clear hz
          obtain ⟨m, hm⟩ : ∃ m, z.size = m := ⟨_, rfl⟩
          rw [hm] at hzs
          obtain ⟨q, hq⟩ : ∃ q : Nat, (m : Int) + 16 = q := ⟨m + 16, by omega⟩
          have hqm : m + 16 = q := by omega
          have HQM := Lib.hid hqm
          have hqb : q ≤ 1048592 := by omega
          clear hqm
          by_cases c4 : 1048576 < t + q
          · go_wp2_with fail
            go_ret
            exact ⟨rfl, Below.refl _ _⟩
          · go_wp2_with fail
            go_round
            case rel => exact ⟨k + 1, t + q, by omega, by omega, by go_num, by go_num, Lib.hid (by show totB ss k + _ = _; rw [HTK.out, HZ.out, hm, HQM.out])⟩
            case measure => simp [intOf]; omega
        · obtain rfl : n = k := by omega
          have HT := Lib.hid (show totB ss n ≤ 1048576 by rw [HTK.out]; exact ht)
          clear HTK ht
          cases a with
          | none =>
            have h0 : n = 0 := by
              rcases Nat.eq_zero_or_pos n with h | h
              · exact h
              · obtain ⟨b, off, hx, _⟩ := HC.out h
                cases hx
            subst h0
            go_wp2_with fail
            refine (zzCsv_any ss 0 hn HT.out (by decide) _ _ ⟨none, _, rfl, fun h => absurd h (Nat.lt_irrefl _)⟩).mono ?_
            rintro e w1 ⟨rfl, hb1⟩
            have he : csvB ss = ⟨#[]⟩ := by rw [List.eq_nil_of_length_eq_zero hn]; rfl
            rw [he]
            have HB1 := Lib.hid hb1
            clear hb1 he
            have hcv := fun w => Own.convert_nil (P := Tryz.prog) w 26 9 5 0 Tryz.underlying26 Tryz.underlying5 Tryz.underlying9
            go_wp2_with fail
            go_loop [9, 10] (fun o i => o = .slice none 0 0 ∧ i = .int .i64 0) (fun _ _ => 0)
            case atStart => exact ⟨rfl, rfl⟩
            case round =>
              obtain ⟨rfl, rfl⟩ := hrel
              go_wp2
              go_ret
              exact ⟨rfl, HB1.out⟩
          | some ad =>
            have hmk := fun w => run_make_row' (P := Tryz.prog) 22 9 (.string ByteArray.empty) 16 Tryz.underlying22 info_str rfl .i64 .i64 n (by omega) (by omega) w
            have hS : Hid (Below W.heap.size W (W.alloc (.cells (madeCells #[.string ByteArray.empty] n) 9)) ∧ (W.alloc (.cells (madeCells #[.string ByteArray.empty] n) 9)).rowIs W.heap.size 9 n (Cells.fill (StrF ss) (.string ByteArray.empty) 0)) :=
              Lib.hid ⟨(Below.refl _ _).alloc (Nat.le_refl _) _, Cells.fill_start (World.rowIs_made W _ n _)⟩
            go_wp2_with fail
            go_loopw [6] (fun i wr => ∃ j : Nat, j ≤ n ∧ i = .int .i64 j ∧ Hid (Below W.heap.size W wr ∧ wr.rowIs W.heap.size 9 n (Cells.fill (StrF ss) (.string ByteArray.empty) j))) (fun i _ => n - (intOf i).toNat)
            case atStart => exact ⟨0, Nat.zero_le _, rfl, hS⟩
            case round =>
              obtain ⟨j, hj, rfl, HRR⟩ := hrel
              by_cases hjl : j < n
              · obtain ⟨b, off, hx, hbl, hcell⟩ := HC.out (by omega)
                cases hx
                have hcx : wr.cell? ⟨b, off + j, none⟩ = some (.string (ss.getD j ByteArray.empty)) := (HRR.out.1.cell (p := ⟨b, off + j, none⟩) hbl).trans (hcell j hjl)
                clear hcell
                obtain ⟨z, hz⟩ : ∃ z, ss.getD j ByteArray.empty = z := ⟨_, rfl⟩
                rw [hz] at hcx
                have HZ := Lib.hid hz
                clear hz
                have hco := Cells.fill_old HRR.out.2 hjl (Nat.lt_irrefl _)
                have hfo := HRR.out.2.frozen j
                go_wp2_with fail
                go_roundw
                case rel => exact ⟨j + 1, by omega, by go_num, Lib.hid ⟨HRR.out.1.setCell (Nat.le_refl _) _, Cells.fill_set HRR.out.2 _ (by unfold StrF; rw [HZ.out])⟩⟩
                case measure => simp [intOf]; omega
              · obtain rfl : n = j := by omega
                go_wp2_with fail
                refine (zzCsv_any ss n hn HT.out hn65' _ _ (Cells.fill_at HRR.out.2)).mono ?_
                rintro e w1 ⟨rfl, hb1⟩
                have HRW := Lib.hid (Cells.rowIs_later HRR.out.2 hb1)
                have HB1 := Lib.hid (HRR.out.1.trans (hb1.mono HRR.out.1.size))
                clear hb1 HRR
                obtain ⟨z, hz⟩ : ∃ z, csvB ss = z := ⟨_, rfl⟩
                rw [hz]
                have HZZ := Lib.hid hz
                clear hz
                go_wp2_with fail
                go_loopw [9, 10] (fun o i wr => ∃ k : Nat, k ≤ n ∧ i = .int .i64 k ∧ Hid (Own.Buf 5 w1.heap.size w1 wr o (Esc.glue (ss.map fieldL) [44] k))) (fun _ i _ => n - (intOf i).toNat)
                case atStart => exact ⟨0, Nat.zero_le _, rfl, Lib.hid (Own.Buf.nil (Below.refl _ _) (Nat.le_refl _))⟩
                case round =>
                  obtain ⟨k, hk, rfl, HR⟩ := hrel
                  by_cases hlt : k < n
                  · have hsz := totB_size ss k n hlt
                    have hgl := glue_len ss k (by omega)
                    have hmo := totB_mono ss k (n - k)
                    rw [show k + (n - k) = n from by omega] at hmo
                    obtain ⟨s, hs⟩ : ∃ s, ss.getD k ByteArray.empty = s := ⟨_, rfl⟩
                    have hgs := glue_step ss k (by omega) s hs
                    rw [hs] at hsz
                    have HSS := Lib.hid hs
                    obtain ⟨m, hm⟩ : ∃ m, s.size = m := ⟨_, rfl⟩
                    have hml : s.data.toList.length = m := hm
                    rw [hm] at hsz
                    have hm2 : m ≤ 1048576 := by have := HT.out; omega
                    have hgl2 : (Esc.glue (ss.map fieldL) [44] k).length ≤ 2097152 := by have := HT.out; omega
                    clear hs hsz hgl hmo
                    by_cases k0 : k = 0
                    · obtain ⟨X, hX⟩ : ∃ X, Esc.glue (ss.map fieldL) [44] k ++ (if k = 0 then [] else [44]) = X := ⟨_, rfl⟩
                      have hXe : Esc.glue (ss.map fieldL) [44] k = X := by rw [← hX, if_pos k0, List.append_nil]
                      rw [hX] at hgs
                      rw [hXe] at HR hgl2
                      have hXl : X.length ≤ 8388608 := by omega
                      have HGS := Lib.hid hgs
                      have HX := HR
                      clear hgs hX hXe hgl2
                      have hk0 : ¬ ((0 : Int) < (k : Int)) := by omega
                      have K0 := Lib.hid k0
                      clear k0
                      have HLEN := Lib.hid (show X.length ≤ 8388608 from hXl)
                      go_wp2_with (at_builtin; refine Own.wpList_buf_bytes rfl _ _ 26 rfl 5 Tryz.underlying26 info_u8c w1.heap.size w1 _ _ rfl (HX.out.alloc _) ⟨wr.heap.size, 0, none⟩ 1 1 [34] rfl rfl (Own.new_cells _ _ _ _ rfl) (by have h0 := HLEN.out; simp only [List.length_cons, List.length_nil]; omega) ?_)
                      intro v2 w2 hb2
                      have hc2 : w2.cell? ⟨W.heap.size, k, none⟩ = some (.string s) := (hb2.below.cell (p := ⟨W.heap.size, k, none⟩) HRW.out.lt).trans ((Cells.fill_cell HRW.out hlt hlt).trans (by unfold StrF; rw [HSS.out]))
                      have HB2 := Lib.hid hb2
                      clear hb2
                      go_wp2_with fail
                      go_loopw [9, 12] (fun o j wi => ∃ q : Nat, q ≤ m ∧ j = .int .i64 q ∧ Hid (Own.Buf 5 w1.heap.size w1 wi o (X ++ [34] ++ (s.data.toList.take q).flatMap Esc.csvF))) (fun _ j _ => m - (intOf j).toNat)
                      case atStart => exact ⟨0, Nat.zero_le _, rfl, Lib.hid (by rw [List.take_zero, List.flatMap_nil, List.append_nil]; exact HB2.out)⟩
                      case round =>
                        obtain ⟨q, hq, rfl, HQ⟩ := hrel
                        have hql := Own.flat_take_len Esc.csvF 2 Esc.csvF_len s.data.toList q
                        have HQL := Lib.hid (show (X ++ [34] ++ (s.data.toList.take q).flatMap Esc.csvF).length ≤ 16777216 by
                          have h0 := HLEN.out
                          rw [List.length_append, List.length_append, List.length_singleton]; omega)
                        clear hql
                        by_cases hqm : q < m
                        · have hi0 := fun w => Str.idx_str (P := Tryz.prog) 9 Tryz.underlying9 s .i64 (q : Int) q rfl (by omega) w
                          have hnext := Own.flat_take Esc.csvF s.data.toList q (by omega)
                          obtain ⟨c, hc⟩ : ∃ c, s.data.toList.getD q 0 = c := ⟨_, rfl⟩
                          rw [hc] at hi0 hnext
                          have H2 := Lib.hid hnext
                          clear hnext hc
                          rcases Esc.csv_cases c with rfl | rfl | ⟨d0, d1, hF⟩
                          · have hidx : ∀ w, (Instr.index 9 (.string s) (.int .i64 (q : Int))).run Tryz.prog w = .ok (.int .u8 34) w := hi0
                            clear hi0
                            go_wp2_with (at_builtin; refine Own.wpList_buf_bytes rfl _ _ 26 rfl 5 Tryz.underlying26 info_u8c w1.heap.size w1 _ _ rfl (HQ.out.alloc _) ⟨wr.heap.size, 0, none⟩ 2 2 [34, 34] rfl rfl (Own.new_cells _ _ _ _ rfl) (by have h0 := HQL.out; simp only [List.length_cons, List.length_nil]; omega) ?_)
                            intro v' w' hb'
                            replace hb' := Lib.hid (show Own.Buf 5 w1.heap.size w1 w' v' (X ++ [34] ++ (s.data.toList.take (q + 1)).flatMap Esc.csvF) from by rw [H2.out]; simpa [Esc.csvF] using hb')
                            clear hidx
                            go_wp2
                            go_roundw
                            case rel => exact ⟨q + 1, by omega, by go_num, hb'⟩
                            case measure => simp [intOf]; omega
                          · have hidx : ∀ w, (Instr.index 9 (.string s) (.int .i64 (q : Int))).run Tryz.prog w = .ok (.int .u8 0) w := hi0
                            clear hi0
                            go_wp2_with (at_builtin; refine Own.wpList_buf_bytes rfl _ _ 26 rfl 5 Tryz.underlying26 info_u8c w1.heap.size w1 _ _ rfl (HQ.out.alloc _) ⟨wr.heap.size, 0, none⟩ 2 2 [92, 48] rfl rfl (Own.new_cells _ _ _ _ rfl) (by have h0 := HQL.out; simp only [List.length_cons, List.length_nil]; omega) ?_)
                            intro v' w' hb'
                            replace hb' := Lib.hid (show Own.Buf 5 w1.heap.size w1 w' v' (X ++ [34] ++ (s.data.toList.take (q + 1)).flatMap Esc.csvF) from by rw [H2.out]; simpa [Esc.csvF] using hb')
                            clear hidx
                            go_wp2
                            go_roundw
                            case rel => exact ⟨q + 1, by omega, by go_num, hb'⟩
                            case measure => simp [intOf]; omega
                          · have hn1 := c.toNat_lt
                            have e0 : ((c.toNat : Int) == 34) = false := by simp; omega
                            have e1 : ((c.toNat : Int) == 0) = false := by simp; omega
                            rw [hF] at H2
                            clear hF
                            go_wp2_with (at_builtin; refine Own.wpList_buf_bytes rfl _ _ 26 rfl 5 Tryz.underlying26 info_u8c w1.heap.size w1 _ _ rfl (HQ.out.alloc _) ⟨wr.heap.size, 0, none⟩ 1 1 [c] rfl rfl (Own.new_cells _ _ _ _ rfl) (by have h0 := HQL.out; simp only [List.length_cons, List.length_nil]; omega) ?_)
                            intro v' w' hb'
                            replace hb' := Lib.hid (show Own.Buf 5 w1.heap.size w1 w' v' (X ++ [34] ++ (s.data.toList.take (q + 1)).flatMap Esc.csvF) from by rw [H2.out]; simpa [Esc.csvF] using hb')
                            clear hi0 d0 d1 e0 e1 hn1
                            go_wp2
                            go_roundw
                            case rel => exact ⟨q + 1, by omega, by go_num, hb'⟩
                            case measure => simp [intOf]; omega
                        · obtain rfl : q = m := by omega
                          rw [List.take_of_length_le (by omega)] at HQ HQL
                          go_wp2_with (at_builtin; refine Own.wpList_buf_bytes rfl _ _ 26 rfl 5 Tryz.underlying26 info_u8c w1.heap.size w1 _ _ rfl (HQ.out.alloc _) ⟨wr.heap.size, 0, none⟩ 1 1 [34] rfl rfl (Own.new_cells _ _ _ _ rfl) (by have h0 := HQL.out; simp only [List.length_cons, List.length_nil]; omega) ?_)
                          intro v' w' hb'
                          replace hb' := Lib.hid (show Own.Buf 5 w1.heap.size w1 w' v' (Esc.glue (ss.map fieldL) [44] (k + 1)) from by rw [HGS.out]; simpa using hb')
                          go_wp2
                          go_roundw
                          case rel => exact ⟨k + 1, by omega, by go_num, hb'⟩
                          case measure => simp [intOf]; omega
                    · obtain ⟨X, hX⟩ : ∃ X, Esc.glue (ss.map fieldL) [44] k ++ (if k = 0 then [] else [44]) = X := ⟨_, rfl⟩
                      have hXe : Esc.glue (ss.map fieldL) [44] k ++ [44] = X := by rw [← hX, if_neg k0]
                      rw [hX] at hgs
                      have hXl : X.length ≤ 8388608 := by rw [← hXe, List.length_append, List.length_singleton]; omega
                      have HGS := Lib.hid hgs
                      clear hgs hX
                      have hk0 : (0 : Int) < (k : Int) := by omega
                      go_wp2_with (at_builtin; refine Own.wpList_buf_bytes rfl _ _ 26 rfl 5 Tryz.underlying26 info_u8c w1.heap.size w1 _ _ rfl (HR.out.alloc _) ⟨wr.heap.size, 0, none⟩ 1 1 [44] rfl rfl (Own.new_cells _ _ _ _ rfl) (by simp only [List.length_cons, List.length_nil]; omega) ?_)
                      intro v0 wx hbx
                      try rw [hXe] at hbx
                      have HX := Lib.hid hbx
                      clear hbx hXe hgl2
                      have HLEN := Lib.hid (show X.length ≤ 8388608 from hXl)
                      go_wp2_with (at_builtin; refine Own.wpList_buf_bytes rfl _ _ 26 rfl 5 Tryz.underlying26 info_u8c w1.heap.size w1 _ _ rfl (HX.out.alloc _) ⟨wx.heap.size, 0, none⟩ 1 1 [34] rfl rfl (Own.new_cells _ _ _ _ rfl) (by have h0 := HLEN.out; simp only [List.length_cons, List.length_nil]; omega) ?_)
                      intro v2 w2 hb2
                      have hc2 : w2.cell? ⟨W.heap.size, k, none⟩ = some (.string s) := (hb2.below.cell (p := ⟨W.heap.size, k, none⟩) HRW.out.lt).trans ((Cells.fill_cell HRW.out hlt hlt).trans (by unfold StrF; rw [HSS.out]))
                      have HB2 := Lib.hid hb2
                      clear hb2
                      go_wp2_with fail
                      go_loopw [9, 12] (fun o j wi => ∃ q : Nat, q ≤ m ∧ j = .int .i64 q ∧ Hid (Own.Buf 5 w1.heap.size w1 wi o (X ++ [34] ++ (s.data.toList.take q).flatMap Esc.csvF))) (fun _ j _ => m - (intOf j).toNat)
                      case atStart => exact ⟨0, Nat.zero_le _, rfl, Lib.hid (by rw [List.take_zero, List.flatMap_nil, List.append_nil]; exact HB2.out)⟩
                      case round =>
                        obtain ⟨q, hq, rfl, HQ⟩ := hrel
                        have hql := Own.flat_take_len Esc.csvF 2 Esc.csvF_len s.data.toList q
                        have HQL := Lib.hid (show (X ++ [34] ++ (s.data.toList.take q).flatMap Esc.csvF).length ≤ 16777216 by
                          have h0 := HLEN.out
                          rw [List.length_append, List.length_append, List.length_singleton]; omega)
                        clear hql
                        by_cases hqm : q < m
                        · have hi0 := fun w => Str.idx_str (P := Tryz.prog) 9 Tryz.underlying9 s .i64 (q : Int) q rfl (by omega) w
                          have hnext := Own.flat_take Esc.csvF s.data.toList q (by omega)
                          obtain ⟨c, hc⟩ : ∃ c, s.data.toList.getD q 0 = c := ⟨_, rfl⟩
                          rw [hc] at hi0 hnext
                          have H2 := Lib.hid hnext
                          clear hnext hc
                          rcases Esc.csv_cases c with rfl | rfl | ⟨d0, d1, hF⟩
                          · have hidx : ∀ w, (Instr.index 9 (.string s) (.int .i64 (q : Int))).run Tryz.prog w = .ok (.int .u8 34) w := hi0
                            clear hi0
                            go_wp2_with (at_builtin; refine Own.wpList_buf_bytes rfl _ _ 26 rfl 5 Tryz.underlying26 info_u8c w1.heap.size w1 _ _ rfl (HQ.out.alloc _) ⟨wr.heap.size, 0, none⟩ 2 2 [34, 34] rfl rfl (Own.new_cells _ _ _ _ rfl) (by have h0 := HQL.out; simp only [List.length_cons, List.length_nil]; omega) ?_)
                            intro v' w' hb'
                            replace hb' := Lib.hid (show Own.Buf 5 w1.heap.size w1 w' v' (X ++ [34] ++ (s.data.toList.take (q + 1)).flatMap Esc.csvF) from by rw [H2.out]; simpa [Esc.csvF] using hb')
                            clear hidx
                            go_wp2
                            go_roundw
                            case rel => exact ⟨q + 1, by omega, by go_num, hb'⟩
                            case measure => simp [intOf]; omega
                          · have hidx : ∀ w, (Instr.index 9 (.string s) (.int .i64 (q : Int))).run Tryz.prog w = .ok (.int .u8 0) w := hi0
                            clear hi0
                            go_wp2_with (at_builtin; refine Own.wpList_buf_bytes rfl _ _ 26 rfl 5 Tryz.underlying26 info_u8c w1.heap.size w1 _ _ rfl (HQ.out.alloc _) ⟨wr.heap.size, 0, none⟩ 2 2 [92, 48] rfl rfl (Own.new_cells _ _ _ _ rfl) (by have h0 := HQL.out; simp only [List.length_cons, List.length_nil]; omega) ?_)
                            intro v' w' hb'
                            replace hb' := Lib.hid (show Own.Buf 5 w1.heap.size w1 w' v' (X ++ [34] ++ (s.data.toList.take (q + 1)).flatMap Esc.csvF) from by rw [H2.out]; simpa [Esc.csvF] using hb')
                            clear hidx
                            go_wp2
                            go_roundw
                            case rel => exact ⟨q + 1, by omega, by go_num, hb'⟩
                            case measure => simp [intOf]; omega
                          · have hn1 := c.toNat_lt
                            have e0 : ((c.toNat : Int) == 34) = false := by simp; omega
                            have e1 : ((c.toNat : Int) == 0) = false := by simp; omega
                            rw [hF] at H2
                            clear hF
                            go_wp2_with (at_builtin; refine Own.wpList_buf_bytes rfl _ _ 26 rfl 5 Tryz.underlying26 info_u8c w1.heap.size w1 _ _ rfl (HQ.out.alloc _) ⟨wr.heap.size, 0, none⟩ 1 1 [c] rfl rfl (Own.new_cells _ _ _ _ rfl) (by have h0 := HQL.out; simp only [List.length_cons, List.length_nil]; omega) ?_)
                            intro v' w' hb'
                            replace hb' := Lib.hid (show Own.Buf 5 w1.heap.size w1 w' v' (X ++ [34] ++ (s.data.toList.take (q + 1)).flatMap Esc.csvF) from by rw [H2.out]; simpa [Esc.csvF] using hb')
                            clear hi0 d0 d1 e0 e1 hn1
                            go_wp2
                            go_roundw
                            case rel => exact ⟨q + 1, by omega, by go_num, hb'⟩
                            case measure => simp [intOf]; omega
                        · obtain rfl : q = m := by omega
                          rw [List.take_of_length_le (by omega)] at HQ HQL
                          go_wp2_with (at_builtin; refine Own.wpList_buf_bytes rfl _ _ 26 rfl 5 Tryz.underlying26 info_u8c w1.heap.size w1 _ _ rfl (HQ.out.alloc _) ⟨wr.heap.size, 0, none⟩ 1 1 [34] rfl rfl (Own.new_cells _ _ _ _ rfl) (by have h0 := HQL.out; simp only [List.length_cons, List.length_nil]; omega) ?_)
                          intro v' w' hb'
                          replace hb' := Lib.hid (show Own.Buf 5 w1.heap.size w1 w' v' (Esc.glue (ss.map fieldL) [44] (k + 1)) from by rw [HGS.out]; simpa using hb')
                          go_wp2
                          go_roundw
                          case rel => exact ⟨k + 1, by omega, by go_num, hb'⟩
                          case measure => simp [intOf]; omega
                  · obtain rfl : k = n := by omega
                    have hcv := Own.own_text (P := Tryz.prog) 26 9 5 Tryz.underlying26 Tryz.underlying5 Tryz.underlying9 HR.out.row
                    have hzz : (⟨(Esc.glue (ss.map fieldL) [44] k).toArray⟩ : ByteArray) = z := by rw [← HZZ.out]; unfold csvB; rw [hn]
                    rw [hzz] at hcv
                    clear hzz
                    go_wp2
                    go_ret
                    exact ⟨rfl, HB1.out.trans (HR.out.below.mono HB1.out.size)⟩

end Go.Proofs.YtbmnbppljnddjaaGreatFmt
