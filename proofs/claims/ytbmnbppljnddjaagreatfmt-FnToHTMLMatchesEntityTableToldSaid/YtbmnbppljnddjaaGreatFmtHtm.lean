/- Walks of @html: htmlEscape and its wrapper, the entity table, the decoding of what it answers; the two laws. -/
import Derived.Test.YtbmnbppljnddjaaGreatFmtFacts
import Derived.Test.YtbmnbppljnddjaaGreatFmtOwn
import Derived.Test.YtbmnbppljnddjaaGreatFmtEsc
import Derived.Test.YtbmnbppljnddjaaGreatFmtStr
import Derived.Handy
import Derived.WalkSpells
import Derived.WalkSmall
import Derived.Deep.LoopGhost
import Derived.Deep.QuietTactic
import Derived.BigQuiet
import Derived.Lib.Hide
namespace Go.Proofs.YtbmnbppljnddjaaGreatFmt
open Go.RowKit Go.Deep


theorem info_u8 : (Tryz.prog.info? 5).map (fun i => (i.zero, i.size, i.bytes)) = some (some (.int .u8 0), 1, 1) := by kernel_rfl

set_option maxHeartbeats 4000000 in
theorem htmlEscape_any (s : ByteArray) (n : Nat) (hn : s.size = n) (hs : n ≤ 1048576) (W : World) :
    Calls Tryz.prog 28 #[.string s] W fun e w' => e = .returned (.string ⟨(s.data.toList.flatMap Esc.htmlF).toArray⟩) ∧ Below W.heap.size W w' := by
  have hl : s.data.toList.length = n := hn
  go_enter Tryz.func28, Tryz.ntmps28
  go_wp2
  go_loopw [3, 4] (fun v i wr => ∃ k : Nat, k ≤ n ∧ i = .int .i64 k ∧ Hid (Own.Buf 5 W.heap.size W wr v ((s.data.toList.take k).flatMap Esc.htmlF))) (fun _ i _ => n - (intOf i).toNat)
  case atStart => exact ⟨0, Nat.zero_le _, rfl, Lib.hid (Own.Buf.nil (Below.refl _ _) (Nat.le_refl _))⟩
  case round =>
    obtain ⟨k, hk, rfl, HB⟩ := hrel
    by_cases hlt : k < n
    · have hi0 := fun w => Str.idx_str (P := Tryz.prog) 9 Tryz.underlying9 s .i64 (k : Int) k rfl (by omega) w
      have H1 := Lib.hid (Own.flat_take_len Esc.htmlF 6 Esc.htmlF_len s.data.toList k)
      have hnext := Own.flat_take Esc.htmlF s.data.toList k (by omega)
      obtain ⟨c, hc⟩ : ∃ c, s.data.toList.getD k 0 = c := ⟨_, rfl⟩
      rw [hc] at hi0 hnext
      have H2 := Lib.hid hnext
      clear hnext hc
      rcases Esc.html_cases c with rfl | rfl | rfl | rfl | rfl | ⟨d0, d1, d2, d3, d4, hF⟩
      · have hidx : ∀ w, (Instr.index 9 (.string s) (.int .i64 (k : Int))).run Tryz.prog w = .ok (.int .u8 60) w := hi0
        clear hi0
        go_wp2_with (at_builtin; refine Own.wpList_buf_str rfl _ _ 26 9 rfl 5 Tryz.underlying26 Tryz.underlying9 info_u8 W.heap.size W _ _ rfl HB.out _ [38, 108, 116, 59] rfl rfl (by have := H1.out; simp only [List.length_cons, List.length_nil]; omega) ?_)
        intro v' w' hb'
        replace hb' := Lib.hid (show Own.Buf 5 W.heap.size W w' v' ((s.data.toList.take (k + 1)).flatMap Esc.htmlF) from by rw [H2.out]; exact hb')
        clear hidx
        go_wp2
        go_roundw
        case rel => exact ⟨k + 1, by omega, by go_num, hb'⟩
        case measure => simp [intOf]; omega
      · have hidx : ∀ w, (Instr.index 9 (.string s) (.int .i64 (k : Int))).run Tryz.prog w = .ok (.int .u8 62) w := hi0
        clear hi0
        go_wp2_with (at_builtin; refine Own.wpList_buf_str rfl _ _ 26 9 rfl 5 Tryz.underlying26 Tryz.underlying9 info_u8 W.heap.size W _ _ rfl HB.out _ [38, 103, 116, 59] rfl rfl (by have := H1.out; simp only [List.length_cons, List.length_nil]; omega) ?_)
        intro v' w' hb'
        replace hb' := Lib.hid (show Own.Buf 5 W.heap.size W w' v' ((s.data.toList.take (k + 1)).flatMap Esc.htmlF) from by rw [H2.out]; exact hb')
        clear hidx
        go_wp2
        go_roundw
        case rel => exact ⟨k + 1, by omega, by go_num, hb'⟩
        case measure => simp [intOf]; omega
      · have hidx : ∀ w, (Instr.index 9 (.string s) (.int .i64 (k : Int))).run Tryz.prog w = .ok (.int .u8 38) w := hi0
        clear hi0
        go_wp2_with (at_builtin; refine Own.wpList_buf_str rfl _ _ 26 9 rfl 5 Tryz.underlying26 Tryz.underlying9 info_u8 W.heap.size W _ _ rfl HB.out _ [38, 97, 109, 112, 59] rfl rfl (by have := H1.out; simp only [List.length_cons, List.length_nil]; omega) ?_)
        intro v' w' hb'
        replace hb' := Lib.hid (show Own.Buf 5 W.heap.size W w' v' ((s.data.toList.take (k + 1)).flatMap Esc.htmlF) from by rw [H2.out]; exact hb')
        clear hidx
        go_wp2
        go_roundw
        case rel => exact ⟨k + 1, by omega, by go_num, hb'⟩
        case measure => simp [intOf]; omega
      · have hidx : ∀ w, (Instr.index 9 (.string s) (.int .i64 (k : Int))).run Tryz.prog w = .ok (.int .u8 39) w := hi0
        clear hi0
        go_wp2_with (at_builtin; refine Own.wpList_buf_str rfl _ _ 26 9 rfl 5 Tryz.underlying26 Tryz.underlying9 info_u8 W.heap.size W _ _ rfl HB.out _ [38, 97, 112, 111, 115, 59] rfl rfl (by have := H1.out; simp only [List.length_cons, List.length_nil]; omega) ?_)
        intro v' w' hb'
        replace hb' := Lib.hid (show Own.Buf 5 W.heap.size W w' v' ((s.data.toList.take (k + 1)).flatMap Esc.htmlF) from by rw [H2.out]; exact hb')
        clear hidx
        go_wp2
        go_roundw
        case rel => exact ⟨k + 1, by omega, by go_num, hb'⟩
        case measure => simp [intOf]; omega
      · have hidx : ∀ w, (Instr.index 9 (.string s) (.int .i64 (k : Int))).run Tryz.prog w = .ok (.int .u8 34) w := hi0
        clear hi0
        go_wp2_with (at_builtin; refine Own.wpList_buf_str rfl _ _ 26 9 rfl 5 Tryz.underlying26 Tryz.underlying9 info_u8 W.heap.size W _ _ rfl HB.out _ [38, 113, 117, 111, 116, 59] rfl rfl (by have := H1.out; simp only [List.length_cons, List.length_nil]; omega) ?_)
        intro v' w' hb'
        replace hb' := Lib.hid (show Own.Buf 5 W.heap.size W w' v' ((s.data.toList.take (k + 1)).flatMap Esc.htmlF) from by rw [H2.out]; exact hb')
        clear hidx
        go_wp2
        go_roundw
        case rel => exact ⟨k + 1, by omega, by go_num, hb'⟩
        case measure => simp [intOf]; omega
      · have hn1 := c.toNat_lt
        have e0 : ((c.toNat : Int) == 60) = false := by simp; omega
        have e1 : ((c.toNat : Int) == 62) = false := by simp; omega
        have e2 : ((c.toNat : Int) == 38) = false := by simp; omega
        have e3 : ((c.toNat : Int) == 39) = false := by simp; omega
        have e4 : ((c.toNat : Int) == 34) = false := by simp; omega
        rw [hF] at H2
        clear hF
        go_wp2_with (at_builtin; refine Own.wpList_buf_bytes rfl _ _ 26 rfl 5 Tryz.underlying26 info_u8 W.heap.size W _ _ rfl (HB.out.alloc _) ⟨wr.heap.size, 0, none⟩ 1 1 [c] rfl rfl (Own.new_cells _ _ _ _ rfl) (by have := H1.out; simp only [List.length_cons, List.length_nil]; omega) ?_)
        intro v' w' hb'
        replace hb' := Lib.hid (show Own.Buf 5 W.heap.size W w' v' ((s.data.toList.take (k + 1)).flatMap Esc.htmlF) from by rw [H2.out]; exact hb')
        clear hi0 d0 e0 d1 e1 d2 e2 d3 e3 d4 e4 hn1
        go_wp2
        go_roundw
        case rel => exact ⟨k + 1, by omega, by go_num, hb'⟩
        case measure => simp [intOf]; omega
    · obtain rfl : k = n := by omega
      have hcv := Own.own_text (P := Tryz.prog) 26 9 5 Tryz.underlying26 Tryz.underlying5 Tryz.underlying9 HB.out.row
      rw [List.take_of_length_le (by omega)] at hcv
      go_wp2
      go_ret
      exact ⟨rfl, HB.out.below⟩

set_option maxHeartbeats 4000000 in
theorem htmlModel_any (s : ByteArray) (n : Nat) (hn : s.size = n) (hs : n ≤ 1048576) (W : World) :
    Calls Tryz.prog 12 #[.string s] W fun e w' => e = .returned (.string ⟨(s.data.toList.flatMap Esc.htmlF).toArray⟩) ∧ Below W.heap.size W w' := by
  have hl : s.data.toList.length = n := hn
  go_enter Tryz.func12, Tryz.ntmps12
  go_wp2_with (at_make; refine Own.wpList_make_buf rfl _ _ 26 rfl 5 Tryz.underlying26 info_u8 W.heap.size W (Below.refl _ _) (Nat.le_refl _) _ _ _ n rfl rfl rfl (by omega) ?_)
  intro v0 w0 hb0
  have HB0 := Lib.hid hb0
  clear hb0
  go_wp2
  go_loopw [3, 4] (fun v i wr => ∃ k : Nat, k ≤ n ∧ i = .int .i64 k ∧ Hid (Own.Buf 5 W.heap.size W wr v ((s.data.toList.take k).flatMap Esc.htmlF))) (fun _ i _ => n - (intOf i).toNat)
  case atStart => exact ⟨0, Nat.zero_le _, rfl, Lib.hid HB0.out⟩
  case round =>
    obtain ⟨k, hk, rfl, HB⟩ := hrel
    by_cases hlt : k < n
    · have hi0 := fun w => Str.idx_str (P := Tryz.prog) 9 Tryz.underlying9 s .i64 (k : Int) k rfl (by omega) w
      have H1 := Lib.hid (Own.flat_take_len Esc.htmlF 6 Esc.htmlF_len s.data.toList k)
      have hnext := Own.flat_take Esc.htmlF s.data.toList k (by omega)
      obtain ⟨c, hc⟩ : ∃ c, s.data.toList.getD k 0 = c := ⟨_, rfl⟩
      rw [hc] at hi0 hnext
      have H2 := Lib.hid hnext
      clear hnext hc
      rcases Esc.html_cases c with rfl | rfl | rfl | rfl | rfl | ⟨d0, d1, d2, d3, d4, hF⟩
      · have hidx : ∀ w, (Instr.index 9 (.string s) (.int .i64 (k : Int))).run Tryz.prog w = .ok (.int .u8 60) w := hi0
        clear hi0
        go_wp2_with (at_builtin; refine Own.wpList_buf_str rfl _ _ 26 9 rfl 5 Tryz.underlying26 Tryz.underlying9 info_u8 W.heap.size W _ _ rfl HB.out _ [38, 108, 116, 59] rfl rfl (by have := H1.out; simp only [List.length_cons, List.length_nil]; omega) ?_)
        intro v' w' hb'
        replace hb' := Lib.hid (show Own.Buf 5 W.heap.size W w' v' ((s.data.toList.take (k + 1)).flatMap Esc.htmlF) from by rw [H2.out]; exact hb')
        clear hidx
        go_wp2
        go_roundw
        case rel => exact ⟨k + 1, by omega, by go_num, hb'⟩
        case measure => simp [intOf]; omega
      · have hidx : ∀ w, (Instr.index 9 (.string s) (.int .i64 (k : Int))).run Tryz.prog w = .ok (.int .u8 62) w := hi0
        clear hi0
        go_wp2_with (at_builtin; refine Own.wpList_buf_str rfl _ _ 26 9 rfl 5 Tryz.underlying26 Tryz.underlying9 info_u8 W.heap.size W _ _ rfl HB.out _ [38, 103, 116, 59] rfl rfl (by have := H1.out; simp only [List.length_cons, List.length_nil]; omega) ?_)
        intro v' w' hb'
        replace hb' := Lib.hid (show Own.Buf 5 W.heap.size W w' v' ((s.data.toList.take (k + 1)).flatMap Esc.htmlF) from by rw [H2.out]; exact hb')
        clear hidx
        go_wp2
        go_roundw
        case rel => exact ⟨k + 1, by omega, by go_num, hb'⟩
        case measure => simp [intOf]; omega
      · have hidx : ∀ w, (Instr.index 9 (.string s) (.int .i64 (k : Int))).run Tryz.prog w = .ok (.int .u8 38) w := hi0
        clear hi0
        go_wp2_with (at_builtin; refine Own.wpList_buf_str rfl _ _ 26 9 rfl 5 Tryz.underlying26 Tryz.underlying9 info_u8 W.heap.size W _ _ rfl HB.out _ [38, 97, 109, 112, 59] rfl rfl (by have := H1.out; simp only [List.length_cons, List.length_nil]; omega) ?_)
        intro v' w' hb'
        replace hb' := Lib.hid (show Own.Buf 5 W.heap.size W w' v' ((s.data.toList.take (k + 1)).flatMap Esc.htmlF) from by rw [H2.out]; exact hb')
        clear hidx
        go_wp2
        go_roundw
        case rel => exact ⟨k + 1, by omega, by go_num, hb'⟩
        case measure => simp [intOf]; omega
      · have hidx : ∀ w, (Instr.index 9 (.string s) (.int .i64 (k : Int))).run Tryz.prog w = .ok (.int .u8 39) w := hi0
        clear hi0
        go_wp2_with (at_builtin; refine Own.wpList_buf_str rfl _ _ 26 9 rfl 5 Tryz.underlying26 Tryz.underlying9 info_u8 W.heap.size W _ _ rfl HB.out _ [38, 97, 112, 111, 115, 59] rfl rfl (by have := H1.out; simp only [List.length_cons, List.length_nil]; omega) ?_)
        intro v' w' hb'
        replace hb' := Lib.hid (show Own.Buf 5 W.heap.size W w' v' ((s.data.toList.take (k + 1)).flatMap Esc.htmlF) from by rw [H2.out]; exact hb')
        clear hidx
        go_wp2
        go_roundw
        case rel => exact ⟨k + 1, by omega, by go_num, hb'⟩
        case measure => simp [intOf]; omega
      · have hidx : ∀ w, (Instr.index 9 (.string s) (.int .i64 (k : Int))).run Tryz.prog w = .ok (.int .u8 34) w := hi0
        clear hi0
        go_wp2_with (at_builtin; refine Own.wpList_buf_str rfl _ _ 26 9 rfl 5 Tryz.underlying26 Tryz.underlying9 info_u8 W.heap.size W _ _ rfl HB.out _ [38, 113, 117, 111, 116, 59] rfl rfl (by have := H1.out; simp only [List.length_cons, List.length_nil]; omega) ?_)
        intro v' w' hb'
        replace hb' := Lib.hid (show Own.Buf 5 W.heap.size W w' v' ((s.data.toList.take (k + 1)).flatMap Esc.htmlF) from by rw [H2.out]; exact hb')
        clear hidx
        go_wp2
        go_roundw
        case rel => exact ⟨k + 1, by omega, by go_num, hb'⟩
        case measure => simp [intOf]; omega
      · have hn1 := c.toNat_lt
        have e0 : ((c.toNat : Int) == 60) = false := by simp; omega
        have e1 : ((c.toNat : Int) == 62) = false := by simp; omega
        have e2 : ((c.toNat : Int) == 38) = false := by simp; omega
        have e3 : ((c.toNat : Int) == 39) = false := by simp; omega
        have e4 : ((c.toNat : Int) == 34) = false := by simp; omega
        rw [hF] at H2
        clear hF
        go_wp2_with (at_builtin; refine Own.wpList_buf_bytes rfl _ _ 26 rfl 5 Tryz.underlying26 info_u8 W.heap.size W _ _ rfl (HB.out.alloc _) ⟨wr.heap.size, 0, none⟩ 1 1 [c] rfl rfl (Own.new_cells _ _ _ _ rfl) (by have := H1.out; simp only [List.length_cons, List.length_nil]; omega) ?_)
        intro v' w' hb'
        replace hb' := Lib.hid (show Own.Buf 5 W.heap.size W w' v' ((s.data.toList.take (k + 1)).flatMap Esc.htmlF) from by rw [H2.out]; exact hb')
        clear hi0 d0 e0 d1 e1 d2 e2 d3 e3 d4 e4 hn1
        go_wp2
        go_roundw
        case rel => exact ⟨k + 1, by omega, by go_num, hb'⟩
        case measure => simp [intOf]; omega
    · obtain rfl : k = n := by omega
      have hcv := Own.own_text (P := Tryz.prog) 26 9 5 Tryz.underlying26 Tryz.underlying5 Tryz.underlying9 HB.out.row
      rw [List.take_of_length_le (by omega)] at hcv
      go_wp2
      go_ret
      exact ⟨rfl, HB.out.below⟩

theorem zzHtml_any (s : ByteArray) (n : Nat) (hn : s.size = n) (hs : n ≤ 1048576) (r : ByteArray) (hr : (⟨(s.data.toList.flatMap Esc.htmlF).toArray⟩ : ByteArray) = r) (W : World) :
    Calls Tryz.prog 11 #[.string s] W fun e w' => e = .returned (.tuple #[.string r, .bool true]) ∧ Below W.heap.size W w' := by
  have hE := htmlEscape_any s n hn hs
  rw [hr] at hE
  go_enter Tryz.func11, Tryz.ntmps11
  go_wp2_with (first | (go_at_call 28; refine (hE _).mono ?_; rintro e w' ⟨rfl, hb⟩) | go_in)
  go_ret2
  exact ⟨rfl, hb⟩

theorem zzbH1_any (s : ByteArray) (n : Nat) (hn : s.size = n) (h : n ≤ 1048576) (w : World) : Calls Tryz.prog 10 #[.string s] w fun e w' => e = .returned (.bool true) ∧ w = w' := by
  go_enter Tryz.func10, Tryz.ntmps10
  go_wp2
  go_ret
  exact ⟨rfl, rfl⟩
theorem zzbH1_big (s : ByteArray) (n : Nat) (hn : s.size = n) (h : 1048576 < n) (w : World) : Calls Tryz.prog 10 #[.string s] w fun e w' => e = .returned (.bool false) ∧ w = w' := by
  go_enter Tryz.func10, Tryz.ntmps10
  go_wp2
  go_ret
  exact ⟨rfl, rfl⟩

theorem zzbH2_any (s : ByteArray) (n : Nat) (hn : s.size = n) (h : n ≤ 1048576) (w : World) : Calls Tryz.prog 13 #[.string s] w fun e w' => e = .returned (.bool true) ∧ w = w' := by
  go_enter Tryz.func13, Tryz.ntmps13
  go_wp2
  go_ret
  exact ⟨rfl, rfl⟩
theorem zzbH2_big (s : ByteArray) (n : Nat) (hn : s.size = n) (h : 1048576 < n) (w : World) : Calls Tryz.prog 13 #[.string s] w fun e w' => e = .returned (.bool false) ∧ w = w' := by
  go_enter Tryz.func13, Tryz.ntmps13
  go_wp2
  go_ret
  exact ⟨rfl, rfl⟩

set_option maxHeartbeats 2000000 in
theorem walk_FnToHTMLMatchesEntityTable (s : ByteArray) (_ws : s.size ≤ maxLen) (W : World) :
    Calls Tryz.prog 4 #[.string s] W fun e w' => e = .returned (.bool true) ∧ Below W.heap.size W w' := by
  obtain ⟨n, hn⟩ : ∃ n, s.size = n := ⟨_, rfl⟩
  by_cases c1 : 1048576 < n
  · go_enter Tryz.func4, Tryz.ntmps4
    go_wp2_with (go_at_call 10; refine (zzbH1_big s n hn c1 _).mono ?_; rintro e w' ⟨rfl, rfl⟩)
    go_ret
    exact ⟨rfl, Below.refl _ _⟩
  · have hm : n ≤ 1048576 := by omega
    obtain ⟨r, hr⟩ : ∃ r, (⟨(s.data.toList.flatMap Esc.htmlF).toArray⟩ : ByteArray) = r := ⟨_, rfl⟩
    have hM := htmlModel_any s n hn hm
    rw [hr] at hM
    go_enter Tryz.func4, Tryz.ntmps4
    go_wp2_with (go_at_call 10; refine (zzbH1_any s n hn hm _).mono ?_; rintro e w' ⟨rfl, rfl⟩)
    refine (zzHtml_any s n hn hm r hr _).mono ?_
    rintro e w1 ⟨rfl, hb1⟩
    have HB1 := Lib.hid hb1
    clear hb1
    go_wp2_with fail
    refine (hM _).mono ?_
    rintro e w2 ⟨rfl, hb2⟩
    have HB2 := Lib.hid (HB1.out.trans (hb2.mono HB1.out.size))
    clear hb2
    go_wp2
    go_ret
    exact ⟨rfl, HB2.out⟩

set_option maxHeartbeats 2000000 in
theorem hasAt_any (s p : ByteArray) (i n m : Nat) (hn : s.size = n) (hm : p.size = m) (hi : i ≤ n) (hnb : n ≤ 100000000) (hmb : m ≤ 100) (b : Bool) (hb : Esc.hasB p.data.toList (s.data.toList.drop i) = b) (W : World) :
    Calls Tryz.prog 14 #[.string s, .int .i64 i, .string p] W fun e w' => e = .returned (.bool b) ∧ Below W.heap.size W w' := by
  have hsl : s.data.toList.length = n := hn
  have hpl : p.data.toList.length = m := hm
  have HBB := Lib.hid hb
  clear hb
  by_cases c : n < i + m
  · have hsub : ((n : Int) - (i : Int) < (m : Int)) := by omega
    go_enter Tryz.func14, Tryz.ntmps14
    go_wp2
    go_ret
    refine ⟨?_, Below.refl _ _⟩
    rw [← HBB.out, Esc.hasB_short (by rw [List.length_drop]; omega)]; rfl
  · have hsub : ¬ ((n : Int) - (i : Int) < (m : Int)) := by omega
    go_enter Tryz.func14, Tryz.ntmps14
    go_wp2
    go_loopw [7] (fun j wr => ∃ k : Nat, k ≤ m ∧ j = .int .i64 k ∧ Hid ((∀ t, t < k → p.data.toList.getD t 0 = (s.data.toList.drop i).getD t 0) ∧ Below W.heap.size W wr)) (fun j _ => m - (intOf j).toNat)
    case atStart => exact ⟨0, Nat.zero_le _, rfl, Lib.hid ⟨fun t ht => absurd ht (by omega), Below.refl _ _⟩⟩
    case round =>
      obtain ⟨k, hk, rfl, HR⟩ := hrel
      by_cases hlt : k < m
      · have h1 := fun w => Str.idx_str (P := Tryz.prog) 9 Tryz.underlying9 s .i64 ((i : Int) + (k : Int)) (i + k) (by omega) (by omega) w
        have h2 := fun w => Str.idx_str (P := Tryz.prog) 9 Tryz.underlying9 p .i64 (k : Int) k rfl (by omega) w
        have hd := Esc.getD_drop s.data.toList i k
        obtain ⟨x, hx⟩ : ∃ x, s.data.toList.getD (i + k) 0 = x := ⟨_, rfl⟩
        obtain ⟨y, hy⟩ : ∃ y, p.data.toList.getD k 0 = y := ⟨_, rfl⟩
        rw [hx] at h1 hd
        rw [hy] at h2
        have HX := Lib.hid hd
        have HY := Lib.hid hy
        clear hx hy hd
        by_cases hxy : x = y
        · subst hxy
          go_wp2_with fail
          go_quiet (fail)
          go_wp2
          go_roundw
          case rel => exact ⟨k + 1, by omega, by go_num, Lib.hid ⟨fun t ht => by
            by_cases ct : t = k
            · subst ct; rw [HX.out, HY.out]
            · exact HR.out.1 t (by omega), below_dN HR.out.2 _⟩⟩
          case measure => simp [intOf]; omega
        · have hne : ((x.toNat : Int) == (y.toNat : Int)) = false := by
            have h3 : x.toNat ≠ y.toNat := fun h => hxy (UInt8.toNat_inj.1 h)
            simp; omega
          have HN := Lib.hid hxy
          clear hxy
          go_wp2_with fail
          go_quiet (fail)
          go_wp2
          go_ret
          refine ⟨?_, below_dN HR.out.2 _⟩
          rw [← HBB.out, Esc.hasB_ne k (by omega) (by rw [HY.out, HX.out]; exact fun h => HN.out h.symm)]; rfl
      · obtain rfl : k = m := by omega
        go_wp2
        go_ret
        refine ⟨?_, HR.out.2⟩
        rw [← HBB.out, Esc.hasB_full (by rw [List.length_drop]; omega) (fun t ht => HR.out.1 t (by omega))]; rfl

set_option maxRecDepth 100000 in
set_option maxHeartbeats 8000000 in
theorem walk_FnToHTMLIsSafeAndInvertible (s : ByteArray) (_ws : s.size ≤ maxLen) (W : World) :
    Calls Tryz.prog 5 #[.string s] W fun e w' => e = .returned (.bool true) ∧ Below W.heap.size W w' := by
  obtain ⟨n, hn⟩ : ∃ n, s.size = n := ⟨_, rfl⟩
  by_cases c1 : 1048576 < n
  · go_enter Tryz.func5, Tryz.ntmps5
    go_wp2_with (go_at_call 13; refine (zzbH2_big s n hn c1 _).mono ?_; rintro e w' ⟨rfl, rfl⟩)
    go_ret
    exact ⟨rfl, Below.refl _ _⟩
  · have hm : n ≤ 1048576 := by omega
    obtain ⟨r, hr⟩ : ∃ r, (⟨(s.data.toList.flatMap Esc.htmlF).toArray⟩ : ByteArray) = r := ⟨_, rfl⟩
    have HZ := fun w => zzHtml_any s n hn hm r hr w
    have hG : r.data.toList = s.data.toList.flatMap Esc.htmlF := by rw [← hr]
    clear hr
    have hl : s.data.toList.length = n := hn
    obtain ⟨N, hN⟩ : ∃ N, r.size = N := ⟨_, rfl⟩
    have hNl : r.data.toList.length = N := hN
    have hN6 : N ≤ 6291456 := by
      have := Own.flat_len Esc.htmlF 6 Esc.htmlF_len s.data.toList
      rw [← hG] at this
      omega
    go_enter Tryz.func5, Tryz.ntmps5
    go_wp2_with (go_at_call 13; refine (zzbH2_any s n hn hm _).mono ?_; rintro e w' ⟨rfl, rfl⟩)
    refine (HZ _).mono ?_
    rintro e w1 ⟨rfl, hb1⟩
    have HB1 := Lib.hid hb1
    clear hb1 HZ
    go_wp2_with (at_make; refine Own.wpList_make_buf rfl _ _ 26 rfl 5 Tryz.underlying26 info_u8 W.heap.size W HB1.out HB1.out.size _ _ _ N rfl rfl rfl (by omega) ?_)
    intro v0 w0 hb0
    have HB0 := Lib.hid hb0
    clear hb0
    go_wp2
    go_loopw [5, 6] (fun v i wr => ∃ k p : Nat, k ≤ n ∧ p ≤ N ∧ i = .int .i64 p ∧ Hid (p = ((s.data.toList.take k).flatMap Esc.htmlF).length ∧ Own.Buf 5 W.heap.size W wr v (s.data.toList.take k))) (fun _ i _ => N - (intOf i).toNat)
    case atStart => exact ⟨0, 0, Nat.zero_le _, Nat.zero_le _, rfl, Lib.hid ⟨rfl, HB0.out⟩⟩
    case round =>
      obtain ⟨k, p, hk, hp, rfl, HR⟩ := hrel
      have hpn : p < N ↔ k < n := by
        have h := Esc.flat_full_len Esc.htmlF Esc.htmlF_pos s.data.toList k
        rw [← HR.out.1, ← hG] at h
        omega
      by_cases hlt : k < n
      · have hpN : p < N := hpn.2 hlt
        clear hpn
        have hi0 := fun w => Str.idx_str (P := Tryz.prog) 9 Tryz.underlying9 r .i64 (p : Int) p rfl (by omega) w
        have hD := Esc.drop_flat_at Esc.htmlF s.data.toList k (by omega)
        rw [← HR.out.1, ← hG] at hD
        have hnext := Own.flat_take Esc.htmlF s.data.toList k (by omega)
        have htk := Own.flat_take (fun b => [b]) s.data.toList k (by omega)
        rw [List.flatMap_singleton', List.flatMap_singleton'] at htk
        obtain ⟨c, hc⟩ : ∃ c, s.data.toList.getD k 0 = c := ⟨_, rfl⟩
        rw [hc] at hD hnext htk
        obtain ⟨q, hq⟩ : ∃ q, (s.data.toList.drop (k + 1)).flatMap Esc.htmlF = q := ⟨_, rfl⟩
        rw [hq] at hD
        have hg0 : (Esc.htmlF c ++ q).getD 0 0 = r.data.toList.getD p 0 := by rw [← hD]; exact Esc.getD_drop r.data.toList p 0
        have hp1 : ((s.data.toList.take (k + 1)).flatMap Esc.htmlF).length = p + (Esc.htmlF c).length := by rw [hnext, List.length_append, ← HR.out.1]
        have hpN1 : p + (Esc.htmlF c).length ≤ N := by
          have h := congrArg List.length hD
          rw [List.length_drop, List.length_append] at h
          have := Esc.htmlF_pos c
          omega
        have HTK := Lib.hid htk
        have HD := Lib.hid hD
        have HP1 := Lib.hid hp1
        have HKL := Lib.hid (show (s.data.toList.take k).length ≤ n from by rw [List.length_take]; omega)
        clear hnext htk hq hc hD hp1
        rcases Esc.html_cases c with rfl | rfl | rfl | rfl | rfl | ⟨d0, d1, d2, d3, d4, hF⟩
        · have hidx : ∀ w, (Instr.index 9 (.string r) (.int .i64 (p : Int))).run Tryz.prog w = .ok (.int .u8 38) w := fun w => by rw [hi0 w, ← hg0]; rfl
          clear hi0 hg0
          have hpb : p + 4 ≤ N := hpN1
          clear hpN1
          go_wp2_with fail
          refine (hasAt_any r _ p N 4 hN rfl hp (by omega) (by decide) true (by rw [HD.out]; exact Esc.hasB_app _ _) _).mono ?_
          rintro e x0 ⟨rfl, hx0⟩
          have HX0 := Lib.hid (HR.out.2.later hx0)
          clear hx0
          go_wp2_with (at_builtin; refine Own.wpList_buf_bytes rfl _ _ 26 rfl 5 Tryz.underlying26 info_u8 W.heap.size W _ _ rfl (HX0.out.alloc _) ⟨x0.heap.size, 0, none⟩ 1 1 [60] rfl rfl (Own.new_cells _ _ _ _ rfl) (by have := HKL.out; simp only [List.length_cons, List.length_nil]; omega) ?_)
          intro v' w' hb'
          replace hb' := Lib.hid (show Own.Buf 5 W.heap.size W w' v' (s.data.toList.take (k + 1)) from by rw [HTK.out]; exact hb')
          clear hidx
          go_wp2
          go_roundw
          case rel => exact ⟨k + 1, p + 4, by omega, by omega, by go_num, Lib.hid ⟨HP1.out.symm, hb'.out⟩⟩
          case measure => simp [intOf]; omega
        · have hidx : ∀ w, (Instr.index 9 (.string r) (.int .i64 (p : Int))).run Tryz.prog w = .ok (.int .u8 38) w := fun w => by rw [hi0 w, ← hg0]; rfl
          clear hi0 hg0
          have hpb : p + 4 ≤ N := hpN1
          clear hpN1
          go_wp2_with fail
          refine (hasAt_any r _ p N 4 hN rfl hp (by omega) (by decide) false (by rw [HD.out]; exact Esc.hasB_ne 1 (by decide) (show (108 : UInt8) ≠ 103 by decide)) _).mono ?_
          rintro e x0 ⟨rfl, hx0⟩
          have HX0 := Lib.hid (HR.out.2.later hx0)
          clear hx0
          go_wp2_with fail
          refine (hasAt_any r _ p N 4 hN rfl hp (by omega) (by decide) true (by rw [HD.out]; exact Esc.hasB_app _ _) _).mono ?_
          rintro e x1 ⟨rfl, hx1⟩
          have HX1 := Lib.hid (HX0.out.later hx1)
          clear hx1
          go_wp2_with (at_builtin; refine Own.wpList_buf_bytes rfl _ _ 26 rfl 5 Tryz.underlying26 info_u8 W.heap.size W _ _ rfl (HX1.out.alloc _) ⟨x1.heap.size, 0, none⟩ 1 1 [62] rfl rfl (Own.new_cells _ _ _ _ rfl) (by have := HKL.out; simp only [List.length_cons, List.length_nil]; omega) ?_)
          intro v' w' hb'
          replace hb' := Lib.hid (show Own.Buf 5 W.heap.size W w' v' (s.data.toList.take (k + 1)) from by rw [HTK.out]; exact hb')
          clear hidx
          go_wp2
          go_roundw
          case rel => exact ⟨k + 1, p + 4, by omega, by omega, by go_num, Lib.hid ⟨HP1.out.symm, hb'.out⟩⟩
          case measure => simp [intOf]; omega
        · have hidx : ∀ w, (Instr.index 9 (.string r) (.int .i64 (p : Int))).run Tryz.prog w = .ok (.int .u8 38) w := fun w => by rw [hi0 w, ← hg0]; rfl
          clear hi0 hg0
          have hpb : p + 5 ≤ N := hpN1
          clear hpN1
          go_wp2_with fail
          refine (hasAt_any r _ p N 4 hN rfl hp (by omega) (by decide) false (by rw [HD.out]; exact Esc.hasB_ne 1 (by decide) (show (108 : UInt8) ≠ 97 by decide)) _).mono ?_
          rintro e x0 ⟨rfl, hx0⟩
          have HX0 := Lib.hid (HR.out.2.later hx0)
          clear hx0
          go_wp2_with fail
          refine (hasAt_any r _ p N 4 hN rfl hp (by omega) (by decide) false (by rw [HD.out]; exact Esc.hasB_ne 1 (by decide) (show (103 : UInt8) ≠ 97 by decide)) _).mono ?_
          rintro e x1 ⟨rfl, hx1⟩
          have HX1 := Lib.hid (HX0.out.later hx1)
          clear hx1
          go_wp2_with fail
          refine (hasAt_any r _ p N 5 hN rfl hp (by omega) (by decide) true (by rw [HD.out]; exact Esc.hasB_app _ _) _).mono ?_
          rintro e x2 ⟨rfl, hx2⟩
          have HX2 := Lib.hid (HX1.out.later hx2)
          clear hx2
          go_wp2_with (at_builtin; refine Own.wpList_buf_bytes rfl _ _ 26 rfl 5 Tryz.underlying26 info_u8 W.heap.size W _ _ rfl (HX2.out.alloc _) ⟨x2.heap.size, 0, none⟩ 1 1 [38] rfl rfl (Own.new_cells _ _ _ _ rfl) (by have := HKL.out; simp only [List.length_cons, List.length_nil]; omega) ?_)
          intro v' w' hb'
          replace hb' := Lib.hid (show Own.Buf 5 W.heap.size W w' v' (s.data.toList.take (k + 1)) from by rw [HTK.out]; exact hb')
          clear hidx
          go_wp2
          go_roundw
          case rel => exact ⟨k + 1, p + 5, by omega, by omega, by go_num, Lib.hid ⟨HP1.out.symm, hb'.out⟩⟩
          case measure => simp [intOf]; omega
        · have hidx : ∀ w, (Instr.index 9 (.string r) (.int .i64 (p : Int))).run Tryz.prog w = .ok (.int .u8 38) w := fun w => by rw [hi0 w, ← hg0]; rfl
          clear hi0 hg0
          have hpb : p + 6 ≤ N := hpN1
          clear hpN1
          go_wp2_with fail
          refine (hasAt_any r _ p N 4 hN rfl hp (by omega) (by decide) false (by rw [HD.out]; exact Esc.hasB_ne 1 (by decide) (show (108 : UInt8) ≠ 97 by decide)) _).mono ?_
          rintro e x0 ⟨rfl, hx0⟩
          have HX0 := Lib.hid (HR.out.2.later hx0)
          clear hx0
          go_wp2_with fail
          refine (hasAt_any r _ p N 4 hN rfl hp (by omega) (by decide) false (by rw [HD.out]; exact Esc.hasB_ne 1 (by decide) (show (103 : UInt8) ≠ 97 by decide)) _).mono ?_
          rintro e x1 ⟨rfl, hx1⟩
          have HX1 := Lib.hid (HX0.out.later hx1)
          clear hx1
          go_wp2_with fail
          refine (hasAt_any r _ p N 5 hN rfl hp (by omega) (by decide) false (by rw [HD.out]; exact Esc.hasB_ne 2 (by decide) (show (109 : UInt8) ≠ 112 by decide)) _).mono ?_
          rintro e x2 ⟨rfl, hx2⟩
          have HX2 := Lib.hid (HX1.out.later hx2)
          clear hx2
          go_wp2_with fail
          refine (hasAt_any r _ p N 6 hN rfl hp (by omega) (by decide) true (by rw [HD.out]; exact Esc.hasB_app _ _) _).mono ?_
          rintro e x3 ⟨rfl, hx3⟩
          have HX3 := Lib.hid (HX2.out.later hx3)
          clear hx3
          go_wp2_with (at_builtin; refine Own.wpList_buf_bytes rfl _ _ 26 rfl 5 Tryz.underlying26 info_u8 W.heap.size W _ _ rfl (HX3.out.alloc _) ⟨x3.heap.size, 0, none⟩ 1 1 [39] rfl rfl (Own.new_cells _ _ _ _ rfl) (by have := HKL.out; simp only [List.length_cons, List.length_nil]; omega) ?_)
          intro v' w' hb'
          replace hb' := Lib.hid (show Own.Buf 5 W.heap.size W w' v' (s.data.toList.take (k + 1)) from by rw [HTK.out]; exact hb')
          clear hidx
          go_wp2
          go_roundw
          case rel => exact ⟨k + 1, p + 6, by omega, by omega, by go_num, Lib.hid ⟨HP1.out.symm, hb'.out⟩⟩
          case measure => simp [intOf]; omega
        · have hidx : ∀ w, (Instr.index 9 (.string r) (.int .i64 (p : Int))).run Tryz.prog w = .ok (.int .u8 38) w := fun w => by rw [hi0 w, ← hg0]; rfl
          clear hi0 hg0
          have hpb : p + 6 ≤ N := hpN1
          clear hpN1
          go_wp2_with fail
          refine (hasAt_any r _ p N 4 hN rfl hp (by omega) (by decide) false (by rw [HD.out]; exact Esc.hasB_ne 1 (by decide) (show (108 : UInt8) ≠ 113 by decide)) _).mono ?_
          rintro e x0 ⟨rfl, hx0⟩
          have HX0 := Lib.hid (HR.out.2.later hx0)
          clear hx0
          go_wp2_with fail
          refine (hasAt_any r _ p N 4 hN rfl hp (by omega) (by decide) false (by rw [HD.out]; exact Esc.hasB_ne 1 (by decide) (show (103 : UInt8) ≠ 113 by decide)) _).mono ?_
          rintro e x1 ⟨rfl, hx1⟩
          have HX1 := Lib.hid (HX0.out.later hx1)
          clear hx1
          go_wp2_with fail
          refine (hasAt_any r _ p N 5 hN rfl hp (by omega) (by decide) false (by rw [HD.out]; exact Esc.hasB_ne 1 (by decide) (show (97 : UInt8) ≠ 113 by decide)) _).mono ?_
          rintro e x2 ⟨rfl, hx2⟩
          have HX2 := Lib.hid (HX1.out.later hx2)
          clear hx2
          go_wp2_with fail
          refine (hasAt_any r _ p N 6 hN rfl hp (by omega) (by decide) false (by rw [HD.out]; exact Esc.hasB_ne 1 (by decide) (show (97 : UInt8) ≠ 113 by decide)) _).mono ?_
          rintro e x3 ⟨rfl, hx3⟩
          have HX3 := Lib.hid (HX2.out.later hx3)
          clear hx3
          go_wp2_with fail
          refine (hasAt_any r _ p N 6 hN rfl hp (by omega) (by decide) true (by rw [HD.out]; exact Esc.hasB_app _ _) _).mono ?_
          rintro e x4 ⟨rfl, hx4⟩
          have HX4 := Lib.hid (HX3.out.later hx4)
          clear hx4
          go_wp2_with (at_builtin; refine Own.wpList_buf_bytes rfl _ _ 26 rfl 5 Tryz.underlying26 info_u8 W.heap.size W _ _ rfl (HX4.out.alloc _) ⟨x4.heap.size, 0, none⟩ 1 1 [34] rfl rfl (Own.new_cells _ _ _ _ rfl) (by have := HKL.out; simp only [List.length_cons, List.length_nil]; omega) ?_)
          intro v' w' hb'
          replace hb' := Lib.hid (show Own.Buf 5 W.heap.size W w' v' (s.data.toList.take (k + 1)) from by rw [HTK.out]; exact hb')
          clear hidx
          go_wp2
          go_roundw
          case rel => exact ⟨k + 1, p + 6, by omega, by omega, by go_num, Lib.hid ⟨HP1.out.symm, hb'.out⟩⟩
          case measure => simp [intOf]; omega
        · have hn1 := c.toNat_lt
          have e0 : ((c.toNat : Int) == 60) = false := by simp; omega
          have e1 : ((c.toNat : Int) == 62) = false := by simp; omega
          have e2 : ((c.toNat : Int) == 38) = false := by simp; omega
          have e3 : ((c.toNat : Int) == 39) = false := by simp; omega
          have e4 : ((c.toNat : Int) == 34) = false := by simp; omega
          rw [hF] at HD HP1 hg0 hpN1
          have hidx : ∀ w, (Instr.index 9 (.string r) (.int .i64 (p : Int))).run Tryz.prog w = .ok (.int .u8 (c.toNat : Int)) w := fun w => by rw [hi0 w, ← hg0]; rfl
          clear hi0 hg0 hF
          go_wp2_with (at_builtin; refine Own.wpList_buf_bytes rfl _ _ 26 rfl 5 Tryz.underlying26 info_u8 W.heap.size W _ _ rfl (HR.out.2.alloc _) ⟨wr.heap.size, 0, none⟩ 1 1 [c] rfl rfl (Own.new_cells _ _ _ _ rfl) (by have := HKL.out; simp only [List.length_cons, List.length_nil]; omega) ?_)
          intro v' w' hb'
          replace hb' := Lib.hid (show Own.Buf 5 W.heap.size W w' v' (s.data.toList.take (k + 1)) from by rw [HTK.out]; exact hb')
          clear hidx d0 d1 d2 d3 d4 e0 e1 e2 e3 e4 hn1
          go_wp2
          go_roundw
          case rel => exact ⟨k + 1, p + 1, by omega, by omega, by go_num, Lib.hid ⟨HP1.out.symm, hb'.out⟩⟩
          case measure => simp [intOf]; omega
      · have hpN : ¬ p < N := fun h => hlt (hpn.1 h)
        obtain rfl : k = n := by omega
        clear hpn
        have hcv := Own.own_text (P := Tryz.prog) 26 9 5 Tryz.underlying26 Tryz.underlying5 Tryz.underlying9 HR.out.2.row
        rw [List.take_of_length_le (by omega)] at hcv
        go_wp2
        go_ret
        exact ⟨rfl, HR.out.2.below⟩

end Go.Proofs.YtbmnbppljnddjaaGreatFmt
