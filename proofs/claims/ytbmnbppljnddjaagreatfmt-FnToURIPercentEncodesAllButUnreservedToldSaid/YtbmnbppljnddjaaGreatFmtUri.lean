/- Walks of @uri: the query escape, the replaced plus, the law. -/
import Derived.Test.YtbmnbppljnddjaaGreatFmtUriE
import Derived.Test.YtbmnbppljnddjaaGreatFmtUriR
namespace Go.Proofs.YtbmnbppljnddjaaGreatFmt
open Go.RowKit Go.Deep

theorem unres_any (c : UInt8) (W : World) : Calls Tryz.prog 17 #[.int .u8 (c.toNat : Int)] W fun e w' => e = .returned (.bool (Uri.unr c.toNat)) ∧ w' = W := by
  have hc := c.toNat_lt
  obtain ⟨k, hk⟩ : ∃ k, c.toNat = k := ⟨_, rfl⟩
  rw [hk] at hc ⊢
  clear hk
  obtain ⟨r, hr⟩ : ∃ r, Uri.unr k = r := ⟨_, rfl⟩
  rw [hr]
  have HR := Lib.hid hr
  clear hr
  go_enter Tryz.func17, Tryz.ntmps17
  go_wp2
  all_goals go_ret
  all_goals
    refine ⟨?_, rfl⟩
    rw [← HR.out]
    show Ending.returned (Value.bool _) = _
    congr 2
    unfold Uri.unr
    rw [Bool.eq_iff_iff]
    simp
    try omega
theorem zzUri_any (s : ByteArray) (n : Nat) (hn : s.size = n) (hs : n ≤ 1048576) (W : World) (htab : ∀ w, Below W.heap.size W w → UTab w) :
    Calls Tryz.prog 16 #[.string s] W fun e w' => e = .returned (.tuple #[.string ⟨(s.data.toList.flatMap Uri.uriF).toArray⟩, .bool true]) ∧ Below W.heap.size W w' := by
  have hl : s.data.toList.length = n := hn
  have HE := Lib.hid (escape_any s n hn hs W htab)
  have hql : (s.data.toList.flatMap Uri.qF).length ≤ 3 * n := by rw [← hl]; exact Own.flat_len Uri.qF 3 Uri.qF_len _
  have HRP : Hid (∀ w, Below W.heap.size W w → Calls Tryz.prog 29 #[.string ⟨(s.data.toList.flatMap Uri.qF).toArray⟩, .string ⟨#[43]⟩, .string ⟨#[37, 50, 48]⟩] w fun e w' => e = .returned (.string ⟨(s.data.toList.flatMap Uri.uriF).toArray⟩) ∧ Below W.heap.size W w') := Lib.hid fun w hb => by
    rw [← Uri.uri_all]
    exact (zzReplace_any ⟨(s.data.toList.flatMap Uri.qF).toArray⟩ _ rfl (by show (s.data.toList.flatMap Uri.qF).length ≤ 3145728; omega) w).mono fun e w' ⟨h1, h2⟩ => ⟨h1, hb.trans (h2.mono hb.size)⟩
  obtain ⟨x, hx⟩ : ∃ x : ByteArray, ⟨(s.data.toList.flatMap Uri.qF).toArray⟩ = x := ⟨_, rfl⟩
  obtain ⟨y, hy⟩ : ∃ y : ByteArray, ⟨(s.data.toList.flatMap Uri.uriF).toArray⟩ = y := ⟨_, rfl⟩
  rw [hx] at HE HRP
  rw [hy] at HRP ⊢
  clear hx hy hql hl hn htab
  go_enter Tryz.func16, Tryz.ntmps16
  go_wp2_with (first
    | (go_at_call 35; refine HE.out.mono ?_; rintro e w2 ⟨rfl, hb⟩)
    | (go_at_call 29; refine (HRP.out _ ?_).mono ?_; exact hb; rintro e w3 ⟨rfl, hb3⟩)
    | go_in)
  go_ret2
  exact ⟨rfl, hb3⟩
theorem zzbU_any (s : ByteArray) (n : Nat) (hn : s.size = n) (h : n ≤ 1048576) (w : World) : Calls Tryz.prog 15 #[.string s] w fun e w' => e = .returned (.bool true) ∧ w = w' := by
  go_enter Tryz.func15, Tryz.ntmps15
  go_wp2
  go_ret
  exact ⟨rfl, rfl⟩
theorem zzbU_big (s : ByteArray) (n : Nat) (hn : s.size = n) (h : 1048576 < n) (w : World) : Calls Tryz.prog 15 #[.string s] w fun e w' => e = .returned (.bool false) ∧ w = w' := by
  go_enter Tryz.func15, Tryz.ntmps15
  go_wp2
  go_ret
  exact ⟨rfl, rfl⟩

set_option maxHeartbeats 4000000 in
set_option maxRecDepth 100000 in
theorem walk_FnToURIPercentEncodesAllButUnreserved (s : ByteArray) (_ws : s.size ≤ maxLen) (W : World) (htab : Lib.TabIs Tryz.prog W "net/url.table" .u8 urlTab) :
    Calls Tryz.prog 6 #[.string s] W fun e w' => e = .returned (.bool true) ∧ Below W.heap.size W w' := by
  obtain ⟨n, hn⟩ : ∃ n, s.size = n := ⟨_, rfl⟩
  by_cases c1 : 1048576 < n
  · go_enter Tryz.func6, Tryz.ntmps6
    go_wp2_with (go_at_call 15; refine (zzbU_big s n hn c1 _).mono ?_; rintro e w' ⟨rfl, rfl⟩)
    go_ret
    exact ⟨rfl, Below.refl _ _⟩
  · have hm : n ≤ 1048576 := by omega
    have hT := Lib.tabBelow_of_tabIs htab
    have HZ := Lib.hid (zzUri_any s n hn hm W hT)
    have HB0 := Lib.hid (zzbU_any s n hn hm W)
    have hl : s.data.toList.length = n := hn
    have HL := Lib.hid hl
    have HUN : Hid (∀ (c : UInt8) (w : World), Calls Tryz.prog 17 #[.int .u8 (c.toNat : Int)] w fun e w' => e = .returned (.bool (Uri.unr c.toNat)) ∧ w' = w) := Lib.hid unres_any
    obtain ⟨y, hy⟩ : ∃ y : ByteArray, ⟨(s.data.toList.flatMap Uri.uriF).toArray⟩ = y := ⟨_, rfl⟩
    rw [hy] at HZ
    have HY := Lib.hid hy
    clear hT htab hl hy
    go_enter Tryz.func6, Tryz.ntmps6
    go_wp2_with (first
      | (go_at_call 15; refine HB0.out.mono ?_; rintro e w' ⟨rfl, rfl⟩)
      | (go_at_call 16; refine HZ.out.mono ?_; rintro e w2 ⟨rfl, hb2⟩)
      | (at_make; refine Own.wpList_make_buf rfl _ _ 26 rfl 5 Tryz.underlying26 info_u8v W.heap.size W hb2 hb2.size _ _ _ (3 * n) rfl rfl (by omega) (by omega) ?_))
    intro v0 w0 hb0
    have HB0' := Lib.hid hb0
    clear hb0
    go_wp2
    go_loopw [5, 6] (fun v i wr => ∃ k : Nat, k ≤ n ∧ i = .int .i64 k ∧ Hid (Own.Buf 5 W.heap.size W wr v ((s.data.toList.take k).flatMap Uri.uriF))) (fun _ i _ => n - (RowKit.intOf i).toNat)
    case atStart => exact ⟨0, Nat.zero_le _, rfl, HB0'⟩
    case round =>
      obtain ⟨k, hk, rfl, HB⟩ := hrel
      by_cases hlt : k < n
      · have hi0 := fun w => Str.idx_str (P := Tryz.prog) 9 Tryz.underlying9 s .i64 (k : Int) k rfl (by omega) w
        have H1 := Lib.hid (Own.flat_take_len Uri.uriF 3 Uri.uriF_len s.data.toList k)
        have hnext := Own.flat_take Uri.uriF s.data.toList k (by rw [HL.out]; exact hlt)
        obtain ⟨c, hc⟩ : ∃ c, s.data.toList.getD k 0 = c := ⟨_, rfl⟩
        rw [hc] at hi0 hnext
        have HS := HUN.out c
        obtain ⟨z, hz⟩ : ∃ z : Int, (c.toNat : Int) = z := ⟨_, rfl⟩
        rw [hz] at hi0 HS
        have HSz := Lib.hid HS
        have hz255 : 0 ≤ z ∧ z < 256 := by have := c.toNat_lt; omega
        cases hu : Uri.unr c.toNat with
        | true =>
          rw [hu] at HSz
          have hqc : Uri.uriF c = [c] := by unfold Uri.uriF; rw [if_pos hu]
          rw [hqc] at hnext
          have H2 := Lib.hid hnext
          clear HS hnext hc hqc hu
          subst hz
          go_wp2_with (first
            | (go_at_call 17; refine (HSz.out _).mono ?_; rintro e w2 ⟨rfl, rfl⟩)
            | (at_builtin; refine Own.wpList_buf_bytes rfl _ _ 26 rfl 5 Tryz.underlying26 info_u8v W.heap.size W _ _ rfl (HB.out.alloc _) ⟨_, 0, none⟩ 1 1 [c] rfl rfl (Own.new_cells _ _ _ _ rfl) (by have := H1.out; simp only [List.length_cons, List.length_nil]; omega) ?_))
          intro v' w' hb'
          replace hb' := Lib.hid (show Own.Buf 5 W.heap.size W w' v' ((s.data.toList.take (k + 1)).flatMap Uri.uriF) from by rw [H2.out]; exact hb')
          go_wp2
          go_roundw
          case rel => exact ⟨k + 1, by omega, by go_num, hb'⟩
          case measure => simp [RowKit.intOf]; omega
        | false =>
          rw [hu] at HSz
          have hqc : Uri.uriF c = [37, Uri.hx (c.toNat / 16), Uri.hx (c.toNat % 16)] := by unfold Uri.uriF; rw [if_neg (by simp [hu])]
          rw [hqc] at hnext
          have H2 := Lib.hid hnext
          obtain ⟨a, ha⟩ : ∃ a : Int, ((Uri.hx (c.toNat / 16)).toNat : Int) = a := ⟨_, rfl⟩
          obtain ⟨b, hb⟩ : ∃ b : Int, ((Uri.hx (c.toNat % 16)).toNat : Int) = b := ⟨_, rfl⟩
          have hia : ∀ w, (Instr.index 9 (.string ⟨#[48, 49, 50, 51, 52, 53, 54, 55, 56, 57, 65, 66, 67, 68, 69, 70]⟩) (.int .u8 (z / 16))).run Tryz.prog w = .ok (.int .u8 ((Uri.hx (c.toNat / 16)).toNat : Int)) w := fun w => by
            rw [Str.idx_str (P := Tryz.prog) 9 Tryz.underlying9 ⟨#[48, 49, 50, 51, 52, 53, 54, 55, 56, 57, 65, 66, 67, 68, 69, 70]⟩ .u8 (z / 16) (c.toNat / 16) (by omega) (by show c.toNat / 16 < 16; have := c.toNat_lt; omega)]
            rfl
          have hib : ∀ w, (Instr.index 9 (.string ⟨#[48, 49, 50, 51, 52, 53, 54, 55, 56, 57, 65, 66, 67, 68, 69, 70]⟩) (.int .u8 (z % 16))).run Tryz.prog w = .ok (.int .u8 ((Uri.hx (c.toNat % 16)).toNat : Int)) w := fun w => by
            rw [Str.idx_str (P := Tryz.prog) 9 Tryz.underlying9 ⟨#[48, 49, 50, 51, 52, 53, 54, 55, 56, 57, 65, 66, 67, 68, 69, 70]⟩ .u8 (z % 16) (c.toNat % 16) (by omega) (by show c.toNat % 16 < 16; omega)]
            rfl
          obtain ⟨p, hp⟩ : ∃ p, Uri.hx (c.toNat / 16) = p := ⟨_, rfl⟩
          obtain ⟨q, hq⟩ : ∃ q, Uri.hx (c.toNat % 16) = q := ⟨_, rfl⟩
          rw [hp] at hia H2
          rw [hq] at hib H2
          clear HS hnext hc hqc hu ha hb hz hp hq
          go_wp2_with (first
            | (go_at_call 17; refine (HSz.out _).mono ?_; rintro e w2 ⟨rfl, rfl⟩)
            | (at_builtin; refine Own.wpList_buf_bytes rfl _ _ 26 rfl 5 Tryz.underlying26 info_u8v W.heap.size W _ _ rfl (HB.out.alloc _) ⟨_, 0, none⟩ 1 1 [37] rfl rfl (Own.new_cells _ _ _ _ rfl) (by have := H1.out; simp only [List.length_cons, List.length_nil]; omega) ?_))
          intro v1 w1 hb1
          have HB1 := Lib.hid hb1
          clear hb1
          go_wp2_with (at_builtin; refine Own.wpList_buf_bytes rfl _ _ 26 rfl 5 Tryz.underlying26 info_u8v W.heap.size W _ _ rfl (HB1.out.alloc _) ⟨_, 0, none⟩ 1 1 [p] rfl rfl (Own.new_cells _ _ _ _ rfl) (by have := H1.out; simp only [List.length_append, List.length_cons, List.length_nil]; omega) ?_)
          intro v2 w2 hb2
          have HB2 := Lib.hid hb2
          clear hb2
          go_wp2_with (at_builtin; refine Own.wpList_buf_bytes rfl _ _ 26 rfl 5 Tryz.underlying26 info_u8v W.heap.size W _ _ rfl (HB2.out.alloc _) ⟨_, 0, none⟩ 1 1 [q] rfl rfl (Own.new_cells _ _ _ _ rfl) (by have := H1.out; simp only [List.length_append, List.length_cons, List.length_nil]; omega) ?_)
          intro v3 w3 hb3
          have HB3 := Lib.hid (show Own.Buf 5 W.heap.size W w3 v3 ((s.data.toList.take (k + 1)).flatMap Uri.uriF) from by rw [H2.out]; simpa using hb3)
          clear hb3
          go_wp2
          go_roundw
          case rel => exact ⟨k + 1, by omega, by go_num, HB3⟩
          case measure => simp [RowKit.intOf]; omega
      · obtain rfl : k = n := by omega
        have hcv := Own.own_text (P := Tryz.prog) 26 9 5 Tryz.underlying26 Tryz.underlying5 Tryz.underlying9 HB.out.row
        rw [List.take_of_length_le (by rw [HL.out]; exact Nat.le_refl _), HY.out] at hcv
        go_wp2
        go_ret
        exact ⟨rfl, HB.out.below⟩
end Go.Proofs.YtbmnbppljnddjaaGreatFmt
