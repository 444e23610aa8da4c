/- Walks: the messages of the two errors at a plain string: encode, Preview, typeErrorPreview at a string; the two laws on strings. -/
import Derived.Test.YtgaeeklmifjigaaGreatFmtPrevS
import Derived.Test.YtgaeeklmifjigaaGreatFmtPrev
import Derived.Test.YtgaeeklmifjigaaGreatFmtEncS
import Derived.Test.YtgaeeklmifjigaaGreatFmtStr
namespace Go.Proofs.YtgaeeklmifjigaaGreatFmt
open Go.RowKit Go.Deep Go.Lib Go.Sort

set_option maxHeartbeats 2000000 in
set_option maxRecDepth 100000 in
theorem encL_str_fits (lw bb eb n : Nat) (hne : lw ≠ bb) (hn1 : eb ≠ lw) (hn2 : eb ≠ bb) (s : ByteArray) (hn : s.size = n) (hsz : n ≤ 1048576) (hfit : n ≤ 29) (hpl : ∀ k, k < n → Plain (s.data.toList.getD k 0)) (W : World) (h : Lw lw bb W []) (hE : Enc 45 eb (lwI lw) W []) :
    Calls Tryz.prog 30 #[.pointer (some ⟨eb, 0, none⟩), .iface 9 (.string s)] W fun e w' => e = .returned (.tuple #[]) ∧ Lw lw bb w' (34 :: s.data.toList ++ [34]) ∧ Three lw bb eb W w' := by
  have HS := Lib.hid (encStr_fits lw bb eb n hne hn1 hn2 s hn hsz hfit hpl W h hE)
  clear h hE hpl
  go_enter Tryz.func30, Tryz.ntmps30
  go_wp2_with (go_at_call 36; refine HS.out.mono ?_; rintro e w2 ⟨rfl, hL2, ht2⟩)
  go_returns
  exact ⟨rfl, hL2, ht2.three eb⟩

set_option maxHeartbeats 2000000 in
set_option maxRecDepth 100000 in
theorem encL_str_edge (lw bb eb n : Nat) (hne : lw ≠ bb) (hn1 : eb ≠ lw) (hn2 : eb ≠ bb) (s : ByteArray) (hn : s.size = n) (hsz : n ≤ 1048576) (hfit : n = 30) (hpl : ∀ k, k < n → Plain (s.data.toList.getD k 0)) (W : World) (h : Lw lw bb W []) (hE : Enc 45 eb (lwI lw) W []) :
    Calls Tryz.prog 30 #[.pointer (some ⟨eb, 0, none⟩), .iface 9 (.string s)] W fun e w' => e = .panicked [fullPanic] ∧ Lw lw bb w' (34 :: s.data.toList ++ [34]) ∧ Three lw bb eb W w' := by
  have HS := Lib.hid (encStr_edge lw bb eb n hne hn1 hn2 s hn hsz hfit hpl W h hE)
  clear h hE hpl
  go_enter Tryz.func30, Tryz.ntmps30
  go_wp2_with (go_at_call 36; refine HS.out.mono ?_; rintro e w2 ⟨rfl, hL2, ht2⟩)
  exact ⟨rfl, rfl, hL2, ht2.three eb⟩

set_option maxHeartbeats 2000000 in
set_option maxRecDepth 100000 in
theorem encL_str_over (lw bb eb n : Nat) (hne : lw ≠ bb) (hn1 : eb ≠ lw) (hn2 : eb ≠ bb) (s : ByteArray) (hn : s.size = n) (hsz : n ≤ 1048576) (hfit : 31 ≤ n) (hpl : ∀ k, k < n → Plain (s.data.toList.getD k 0)) (W : World) (h : Lw lw bb W []) (hE : Enc 45 eb (lwI lw) W []) :
    Calls Tryz.prog 30 #[.pointer (some ⟨eb, 0, none⟩), .iface 9 (.string s)] W fun e w' => e = .panicked [fullPanic] ∧ Lw lw bb w' (34 :: s.data.toList.take 31) ∧ Three lw bb eb W w' := by
  have HS := Lib.hid (encStr_over lw bb eb n hne hn1 hn2 s hn hsz hfit hpl W h hE)
  clear h hE hpl
  go_enter Tryz.func30, Tryz.ntmps30
  go_wp2_with (go_at_call 36; refine HS.out.mono ?_; rintro e w2 ⟨rfl, hL2, ht2⟩)
  exact ⟨rfl, rfl, hL2, ht2.three eb⟩

/-- The preview of a plain string. -/
def strT (s : ByteArray) : List UInt8 := if s.size ≤ 28 then 34 :: s.data.toList ++ [34] else 34 :: s.data.toList.take 24 ++ [32, 46, 46, 46, 34]
theorem plain_at {s : ByteArray} {n : Nat} (hn : s.size = n) (hpl : ∀ k, k < n → Plain (s.data.toList.getD k 0)) (b : UInt8) (hb : b ∈ s.data.toList) : b.toNat < 128 := by
  obtain ⟨k, hk, rfl⟩ := List.mem_iff_getElem.1 hb
  have h := hpl k (by rw [← hn]; exact hk)
  rw [List.getD_eq_getElem?_getD, List.getElem?_eq_getElem hk] at h
  have := h.2.1
  simp only [Option.getD_some] at this
  omega
theorem asc_getD (l : List UInt8) (h : ∀ b ∈ l, b.toNat < 128) (j : Nat) : (l.getD j 0).toNat < 128 := by
  rw [List.getD_eq_getElem?_getD]
  cases hj : l[j]? with
  | none => decide
  | some b => exact h b (List.mem_of_getElem? hj)
theorem prev_str (s : ByteArray) (n : Nat) (hn : s.size = n) (hsz : n ≤ 1048576) (hpl : ∀ k, k < n → Plain (s.data.toList.getD k 0)) (W : World) :
    Calls Tryz.prog 40 #[.iface 9 (.string s)] W fun e w' => e = .returned (.string ⟨(strT s).toArray⟩) ∧ Below W.heap.size W w' := by
  have hl : s.data.toList.length = n := hn
  have hasc : ∀ b ∈ (34 :: s.data.toList ++ [34]), b.toNat < 128 := by
    intro b hb
    simp only [List.cons_append, List.mem_cons, List.mem_append, List.not_mem_nil, or_false] at hb
    rcases hb with rfl | hb | rfl
    · decide
    · exact plain_at hn hpl b hb
    · decide
  have htk : ∀ m : List UInt8, ((34 : UInt8) :: m).take 25 = 34 :: m.take 24 := fun m => rfl
  by_cases c1 : n ≤ 28
  · have e : strT s = 34 :: s.data.toList ++ [34] := by unfold strT; rw [if_pos (by rw [hn]; exact c1)]
    rw [e]
    have hln : (34 :: s.data.toList ++ [34]).length ≤ 30 := by simp [hl]; omega
    exact preview_short _ _ hln W (Lib.hid (jlm_any _ _ (by omega) W (Lib.hid fun lw bb eb w hL hE hne _ _ _ k4 k5 _ =>
      (encL_str_fits lw bb eb n hne k4 k5 s hn hsz (by omega) hpl w hL hE).mono fun e w' h => ⟨h.1, h.2.1, h.2.2⟩)))
  · have e : strT s = 34 :: s.data.toList.take 24 ++ [32, 46, 46, 46, 34] := by unfold strT; rw [if_neg (by rw [hn]; exact c1)]
    rw [e]
    have e25 : (34 :: s.data.toList ++ [34]).take 25 = 34 :: s.data.toList.take 24 := by
      rw [List.cons_append, htk, List.take_append_of_le_length (by omega)]
    by_cases c2 : n ≤ 30
    · have hln : (34 :: s.data.toList ++ [34]).length = n + 2 := by simp [hl]
      rw [← e25]
      refine preview_long _ _ (n + 2) hln (by omega) (by omega) (fun j _ => asc_getD _ hasc j) W (Lib.hid ?_)
      by_cases c3 : n ≤ 29
      · have H := jlm_any (.iface 9 (.string s)) _ (by omega) W (Lib.hid fun lw bb eb w hL hE hne _ _ _ k4 k5 _ =>
          (encL_str_fits lw bb eb n hne k4 k5 s hn hsz c3 hpl w hL hE).mono fun e w' h => ⟨h.1, h.2.1, h.2.2⟩)
        rw [hln] at H
        exact H
      · have H := jlm_full (.iface 9 (.string s)) _ (by omega) W (Lib.hid fun lw bb eb w hL hE hne _ _ _ k4 k5 _ =>
          (encL_str_edge lw bb eb n hne k4 k5 s hn hsz (by omega) hpl w hL hE).mono fun e w' h => ⟨h.1, h.2.1, h.2.2⟩)
        rw [hln] at H
        exact H
    · have hln : (34 :: s.data.toList.take 31).length = 32 := by simp [hl]; omega
      have e2 : (34 :: s.data.toList.take 31).take 25 = 34 :: s.data.toList.take 24 := by
        rw [htk, List.take_take]
        rfl
      rw [← e2]
      refine preview_long _ _ 32 hln (by omega) (by omega) (fun j _ => asc_getD _ (fun b hb => ?_) j) W (Lib.hid ?_)
      · rcases List.mem_cons.1 hb with rfl | hb
        · decide
        · exact plain_at hn hpl b (List.mem_of_mem_take hb)
      · have H := jlm_full (.iface 9 (.string s)) _ hln W (Lib.hid fun lw bb eb w hL hE hne _ _ _ k4 k5 _ =>
          (encL_str_over lw bb eb n hne k4 k5 s hn hsz (by omega) hpl w hL hE).mono fun e w' h => ⟨h.1, h.2.1, h.2.2⟩)
        rw [hln] at H
        exact H
theorem strT_len (s : ByteArray) : (strT s).length ≤ 30 := by
  have : s.data.toList.length = s.size := rfl
  unfold strT
  split
  · simp only [List.cons_append, List.length_cons, List.length_append, List.length_nil]; omega
  · simp only [List.cons_append, List.length_cons, List.length_append, List.length_nil, List.length_take]; omega
def strTE (s : ByteArray) : ByteArray := ⟨#[115, 116, 114, 105, 110, 103, 32, 40]⟩ ++ ⟨(strT s).toArray⟩ ++ ⟨#[41]⟩
theorem strTE_size (s : ByteArray) : (strTE s).size ≤ 1048576 := by
  have := strT_len s
  unfold strTE
  rw [ByteArray.size_append, ByteArray.size_append, show (⟨(strT s).toArray⟩ : ByteArray).size = (strT s).length from rfl]
  simp [ByteArray.size]
  omega
theorem tepT_str (s : ByteArray) (n : Nat) (hn : s.size = n) (hsz : n ≤ 1048576) (hpl : ∀ k, k < n → Plain (s.data.toList.getD k 0)) (W : World) :
    Calls Tryz.prog 31 #[.iface 9 (.string s)] W fun e w' => e = .returned (.string (strTE s)) ∧ Below W.heap.size W w' :=
  tep_string _ _ (by have := strT_len s; show (strT s).length ≤ 1048576; omega) W (Lib.hid (prev_str s n hn hsz hpl W))
theorem bytes_ext {a b : ByteArray} (h : a.data.toList = b.data.toList) : a = b := by
  cases a; cases b; simp only [ByteArray.mk.injEq]; exact Array.toList_inj.1 h
theorem strTE_small (s : ByteArray) (h : s.size ≤ 28) : strTE s = ⟨#[115, 116, 114, 105, 110, 103, 32, 40, 34]⟩ ++ s ++ ⟨#[34, 41]⟩ := by
  apply bytes_ext
  unfold strTE strT
  rw [if_pos h]
  simp [ByteArray.data_append]
theorem strTE_big (s : ByteArray) (h : ¬ s.size ≤ 28) : strTE s = ⟨#[115, 116, 114, 105, 110, 103, 32, 40, 34]⟩ ++ s.extract 0 24 ++ ⟨#[32, 46, 46, 46, 34, 41]⟩ := by
  apply bytes_ext
  unfold strTE strT
  rw [if_neg h]
  simp [ByteArray.data_append, ByteArray.data_extract]

set_option maxHeartbeats 2000000 in
set_option maxRecDepth 100000 in
theorem plain_yes (s : ByteArray) (n : Nat) (hn : s.size = n) (hsz : n ≤ 1048576) (hpl : ∀ k, k < n → Plain (s.data.toList.getD k 0)) (W : World) :
    Calls Tryz.prog 13 #[.string s] W fun e w' => e = .returned (.bool true) ∧ w' = W := by
  have HPL := Lib.hid hpl
  clear hpl
  go_enter Tryz.func13, Tryz.ntmps13
  go_wp2
  go_loopw [3] (fun i wr => ∃ k : Nat, k ≤ n ∧ i = .int .i64 k ∧ wr = W) (fun i _ => n - (RowKit.intOf i).toNat)
  case atStart => exact ⟨0, Nat.zero_le _, rfl, rfl⟩
  case round =>
    obtain ⟨k, hk, rfl, rfl⟩ := hrel
    by_cases hlt : k < n
    · have hi0 := fun w => Str.idx_str (P := Tryz.prog) 9 Tryz.underlying9 s .i64 (k : Int) k rfl (by omega) w
      have hp := HPL.out k hlt
      obtain ⟨c, hc⟩ : ∃ c, s.data.toList.getD k 0 = c := ⟨_, rfl⟩
      rw [hc] at hi0 hp
      obtain ⟨z, hz⟩ : ∃ z : Int, (c.toNat : Int) = z := ⟨_, rfl⟩
      rw [hz] at hi0
      have p1 : ¬ z < 32 := by have := hp.1; omega
      have p2 : ¬ 126 < z := by have := hp.2.1; omega
      have p3 : (z == 34) = false := by have := hp.2.2.1; simp; omega
      have p4 : (z == 92) = false := by have := hp.2.2.2; simp; omega
      have p5 : ¬ z = 34 := by have := hp.2.2.1; omega
      have p6 : ¬ z = 92 := by have := hp.2.2.2; omega
      clear hc hz hp
      go_wp2
      go_roundw
      case rel => exact ⟨k + 1, by omega, by go_num, trivial⟩
      case measure => simp [RowKit.intOf]; omega
    · obtain rfl : k = n := by omega
      go_wp2
      go_ret
      exact ⟨rfl, rfl⟩
set_option maxHeartbeats 4000000 in
set_option maxRecDepth 100000 in
theorem plain_no (s : ByteArray) (n : Nat) (hn : s.size = n) (hsz : n ≤ 1048576) (hpl : ¬ ∀ k, k < n → Plain (s.data.toList.getD k 0)) (W : World) :
    Calls Tryz.prog 13 #[.string s] W fun e w' => e = .returned (.bool false) ∧ w' = W := by
  have HPL := Lib.hid hpl
  clear hpl
  go_enter Tryz.func13, Tryz.ntmps13
  go_wp2
  go_loopw [3] (fun i wr => ∃ k : Nat, k ≤ n ∧ i = .int .i64 k ∧ wr = W ∧ Hid (∀ j, j < k → Plain (s.data.toList.getD j 0))) (fun i _ => n - (RowKit.intOf i).toNat)
  case atStart => exact ⟨0, Nat.zero_le _, rfl, rfl, Lib.hid fun j hj => absurd hj (by omega)⟩
  case round =>
    obtain ⟨k, hk, rfl, rfl, HR⟩ := hrel
    by_cases hlt : k < n
    · have hi0 := fun w => Str.idx_str (P := Tryz.prog) 9 Tryz.underlying9 s .i64 (k : Int) k rfl (by omega) w
      obtain ⟨c, hc⟩ : ∃ c, s.data.toList.getD k 0 = c := ⟨_, rfl⟩
      rw [hc] at hi0
      obtain ⟨z, hz⟩ : ∃ z : Int, (c.toNat : Int) = z := ⟨_, rfl⟩
      rw [hz] at hi0
      by_cases hp : Plain c
      · have HR2 : Hid (∀ j, j < k + 1 → Plain (s.data.toList.getD j 0)) := Lib.hid fun j hj => by
          rcases Nat.lt_succ_iff_lt_or_eq.1 hj with h | rfl
          · exact HR.out j h
          · rw [hc]; exact hp
        have p1 : ¬ z < 32 := by have := hp.1; omega
        have p2 : ¬ 126 < z := by have := hp.2.1; omega
        have p3 : (z == 34) = false := by have := hp.2.2.1; simp; omega
        have p4 : (z == 92) = false := by have := hp.2.2.2; simp; omega
        have p5 : ¬ z = 34 := by have := hp.2.2.1; omega
        have p6 : ¬ z = 92 := by have := hp.2.2.2; omega
        clear hc hz hp
        go_wp2
        go_roundw
        case rel => exact ⟨k + 1, by omega, by go_num, trivial, HR2⟩
        case measure => simp [RowKit.intOf]; omega
      · have h4 : z < 32 ∨ (¬ z < 32 ∧ 126 < z) ∨ z = 34 ∨ z = 92 := by
          by_cases q1 : c.toNat < 32
          · left; omega
          · by_cases q2 : 126 < c.toNat
            · right; left; omega
            · right; right
              by_cases q3 : c.toNat = 34
              · left; omega
              · by_cases q4 : c.toNat = 92
                · right; omega
                · exact absurd ⟨by omega, by omega, q3, q4⟩ hp
        clear hc hz hp
        rcases h4 with h4 | ⟨h4, h5⟩ | rfl | rfl
        all_goals go_wp2
        all_goals go_ret
        all_goals exact ⟨rfl, rfl⟩
    · obtain rfl : k = n := by omega
      exact absurd HR.out HPL.out
set_option maxHeartbeats 2000000 in
set_option maxRecDepth 100000 in
theorem zzSP_str (s : ByteArray) (n : Nat) (hn : s.size = n) (hsz : n ≤ 1048576) (W : World) :
    Calls Tryz.prog 15 #[.string s] W fun e w' => e = .returned (.string (strTE s)) ∧ w' = W := by
  by_cases c : n ≤ 28
  · rw [strTE_small s (by omega)]
    have hc : (n : Int) ≤ 28 := by omega
    go_enter Tryz.func15, Tryz.ntmps15
    go_wp2
    go_ret
    exact ⟨rfl, rfl⟩
  · rw [strTE_big s (by omega)]
    have hc : ¬ (n : Int) ≤ 28 := by omega
    have hsl : ∀ w, (Instr.slice 9 (.string s) none (some (.int .i64 24)) none).run Tryz.prog w = .ok (.string (s.extract 0 24)) w := fun w => by
      rw [run_slice_string_h w 9 s Tryz.underlying9 .i64 24 (by omega) (by omega)]
      rfl
    have hs24 : (s.extract 0 24).size = 24 := by rw [ByteArray.size_extract]; omega
    obtain ⟨x, hx⟩ : ∃ x, s.extract 0 24 = x := ⟨_, rfl⟩
    rw [hx] at hsl hs24 ⊢
    clear hx
    go_enter Tryz.func15, Tryz.ntmps15
    go_wp2
    go_ret
    exact ⟨rfl, rfl⟩

set_option maxHeartbeats 2000000 in
set_option maxRecDepth 100000 in
theorem zzE_String (s : ByteArray) (n : Nat) (hn : s.size = n) (hsz : n ≤ 1048576) (hpl : ∀ k, k < n → Plain (s.data.toList.getD k 0)) (W : World) :
    Calls Tryz.prog 14 #[.string s] W fun e w' => e = .returned (.string (⟨#[101, 120, 112, 101, 99, 116, 101, 100, 32, 34, 115, 116, 97, 114, 116, 34, 32, 97, 110, 100, 32, 34, 101, 110, 100, 34, 32, 102, 111, 114, 32, 115, 108, 105, 99, 105, 110, 103, 32, 98, 117, 116, 32, 103, 111, 116, 58, 32]⟩ ++ strTE s)) ∧ Below W.heap.size W w' := by
  have HE : Hid (∀ w, Below W.heap.size W w → w.cell? ⟨W.heap.size, 0, none⟩ = some (.iface 9 (.string s)) → Calls Tryz.prog 27 #[.pointer (some ⟨W.heap.size, 0, none⟩)] w fun e w' => e = .returned (.string (⟨#[101, 120, 112, 101, 99, 116, 101, 100, 32, 34, 115, 116, 97, 114, 116, 34, 32, 97, 110, 100, 32, 34, 101, 110, 100, 34, 32, 102, 111, 114, 32, 115, 108, 105, 99, 105, 110, 103, 32, 98, 117, 116, 32, 103, 111, 116, 58, 32]⟩ ++ strTE s)) ∧ Below W.heap.size W w') :=
    Lib.hid fun w hb hc => (err_E _ _ (strTE_size s) _ w hc (Lib.hid (tepT_str s n hn hsz hpl w))).mono fun e w' h => ⟨h.1, hb.trans (h.2.mono hb.size)⟩
  clear hpl hsz hn
  go_enter Tryz.func14, Tryz.ntmps14
  go_wp2_with (go_at_call 27; refine (HE.out _ ?_ ?_).mono ?_; exact (Below.refl _ _).alloc (Nat.le_refl _) _; (rw [Lib.cell_of_heap (heap_alloc_new _ _)]; rfl); rintro e w2 ⟨rfl, hb⟩)
  go_ret
  exact ⟨rfl, hb⟩
theorem zzbE_any (s : ByteArray) (n : Nat) (hn : s.size = n) (h : n ≤ 1048576) (w : World) : Calls Tryz.prog 12 #[.string s] w fun e w' => e = .returned (.bool true) ∧ w' = w := by
  go_enter Tryz.func12, Tryz.ntmps12
  go_wp2
  go_ret
  exact ⟨rfl, rfl⟩
theorem zzbE_big (s : ByteArray) (n : Nat) (hn : s.size = n) (h : 1048576 < n) (w : World) : Calls Tryz.prog 12 #[.string s] w fun e w' => e = .returned (.bool false) ∧ w' = w := by
  go_enter Tryz.func12, Tryz.ntmps12
  go_wp2
  go_ret
  exact ⟨rfl, rfl⟩
set_option maxHeartbeats 2000000 in
set_option maxRecDepth 100000 in
theorem walk_FnExpectedStartEndErrorString (s : ByteArray) (_ws : s.size ≤ maxLen) (W : World) :
    Calls Tryz.prog 4 #[.string s] W fun e w' => e = .returned (.bool true) ∧ Below W.heap.size W w' := by
  obtain ⟨n, hn⟩ : ∃ n, s.size = n := ⟨_, rfl⟩
  by_cases c1 : 1048576 < n
  · go_enter Tryz.func4, Tryz.ntmps4
    go_wp2_with (go_at_call 12; refine (zzbE_big s n hn c1 _).mono ?_; rintro e w' ⟨rfl, rfl⟩)
    go_ret
    exact ⟨rfl, Below.refl _ _⟩
  · have hm : n ≤ 1048576 := by omega
    have HB := Lib.hid (zzbE_any s n hn hm W)
    by_cases hpl : ∀ k, k < n → Plain (s.data.toList.getD k 0)
    · have HY := Lib.hid (plain_yes s n hn hm hpl W)
      have HZ := Lib.hid (zzE_String s n hn hm hpl W)
      have HP := Lib.hid (zzSP_str s n hn hm)
      have hsz := strTE_size s
      obtain ⟨x, hx⟩ : ∃ x, strTE s = x := ⟨_, rfl⟩
      obtain ⟨m, hmx⟩ : ∃ m, x.size = m := ⟨_, rfl⟩
      rw [hx] at HZ HP hsz
      rw [hmx] at hsz
      clear hpl hx
      go_enter Tryz.func4, Tryz.ntmps4
      go_wp2_with (first
        | (go_at_call 12; refine HB.out.mono ?_; rintro e w' ⟨rfl, rfl⟩)
        | (go_at_call 13; refine HY.out.mono ?_; rintro e w' ⟨rfl, rfl⟩)
        | (go_at_call 14; refine HZ.out.mono ?_; rintro e w2 ⟨rfl, hb2⟩)
        | (go_at_call 15; refine (HP.out _).mono ?_; rintro e w' ⟨rfl, rfl⟩))
      go_ret
      exact ⟨rfl, hb2⟩
    · have HY := Lib.hid (plain_no s n hn hm hpl W)
      clear hpl
      go_enter Tryz.func4, Tryz.ntmps4
      go_wp2_with (first
        | (go_at_call 12; refine HB.out.mono ?_; rintro e w' ⟨rfl, rfl⟩)
        | (go_at_call 13; refine HY.out.mono ?_; rintro e w' ⟨rfl, rfl⟩))
      go_ret
      exact ⟨rfl, Below.refl _ _⟩

set_option maxHeartbeats 2000000 in
set_option maxRecDepth 100000 in
theorem zzS_String (s : ByteArray) (n : Nat) (hn : s.size = n) (hsz : n ≤ 1048576) (hpl : ∀ k, k < n → Plain (s.data.toList.getD k 0)) (W : World) :
    Calls Tryz.prog 17 #[.string s] W fun e w' => e = .returned (.string (⟨#[101, 120, 112, 101, 99, 116, 101, 100, 32, 97, 32, 110, 117, 109, 98, 101, 114, 32, 102, 111, 114, 32, 105, 110, 100, 101, 120, 105, 110, 103, 32, 97, 32, 115, 116, 114, 105, 110, 103, 32, 98, 117, 116, 32, 103, 111, 116, 58, 32]⟩ ++ strTE s)) ∧ Below W.heap.size W w' := by
  have HE : Hid (∀ w, Below W.heap.size W w → w.cell? ⟨W.heap.size, 0, none⟩ = some (.iface 9 (.string s)) → Calls Tryz.prog 28 #[.pointer (some ⟨W.heap.size, 0, none⟩)] w fun e w' => e = .returned (.string (⟨#[101, 120, 112, 101, 99, 116, 101, 100, 32, 97, 32, 110, 117, 109, 98, 101, 114, 32, 102, 111, 114, 32, 105, 110, 100, 101, 120, 105, 110, 103, 32, 97, 32, 115, 116, 114, 105, 110, 103, 32, 98, 117, 116, 32, 103, 111, 116, 58, 32]⟩ ++ strTE s)) ∧ Below W.heap.size W w') :=
    Lib.hid fun w hb hc => (err_S _ _ (strTE_size s) _ w hc (Lib.hid (tepT_str s n hn hsz hpl w))).mono fun e w' h => ⟨h.1, hb.trans (h.2.mono hb.size)⟩
  clear hpl hsz hn
  go_enter Tryz.func17, Tryz.ntmps17
  go_wp2_with (go_at_call 28; refine (HE.out _ ?_ ?_).mono ?_; exact (Below.refl _ _).alloc (Nat.le_refl _) _; (rw [Lib.cell_of_heap (heap_alloc_new _ _)]; rfl); rintro e w2 ⟨rfl, hb⟩)
  go_ret
  exact ⟨rfl, hb⟩
theorem zzbS_any (s : ByteArray) (n : Nat) (hn : s.size = n) (h : n ≤ 1048576) (w : World) : Calls Tryz.prog 16 #[.string s] w fun e w' => e = .returned (.bool true) ∧ w' = w := by
  go_enter Tryz.func16, Tryz.ntmps16
  go_wp2
  go_ret
  exact ⟨rfl, rfl⟩
theorem zzbS_big (s : ByteArray) (n : Nat) (hn : s.size = n) (h : 1048576 < n) (w : World) : Calls Tryz.prog 16 #[.string s] w fun e w' => e = .returned (.bool false) ∧ w' = w := by
  go_enter Tryz.func16, Tryz.ntmps16
  go_wp2
  go_ret
  exact ⟨rfl, rfl⟩
set_option maxHeartbeats 2000000 in
set_option maxRecDepth 100000 in
theorem walk_FnStringIndexNotNumberErrorString (s : ByteArray) (_ws : s.size ≤ maxLen) (W : World) :
    Calls Tryz.prog 5 #[.string s] W fun e w' => e = .returned (.bool true) ∧ Below W.heap.size W w' := by
  obtain ⟨n, hn⟩ : ∃ n, s.size = n := ⟨_, rfl⟩
  by_cases c1 : 1048576 < n
  · go_enter Tryz.func5, Tryz.ntmps5
    go_wp2_with (go_at_call 16; refine (zzbS_big s n hn c1 _).mono ?_; rintro e w' ⟨rfl, rfl⟩)
    go_ret
    exact ⟨rfl, Below.refl _ _⟩
  · have hm : n ≤ 1048576 := by omega
    have HB := Lib.hid (zzbS_any s n hn hm W)
    by_cases hpl : ∀ k, k < n → Plain (s.data.toList.getD k 0)
    · have HY := Lib.hid (plain_yes s n hn hm hpl W)
      have HZ := Lib.hid (zzS_String s n hn hm hpl W)
      have HP := Lib.hid (zzSP_str s n hn hm)
      have hsz := strTE_size s
      obtain ⟨x, hx⟩ : ∃ x, strTE s = x := ⟨_, rfl⟩
      obtain ⟨m, hmx⟩ : ∃ m, x.size = m := ⟨_, rfl⟩
      rw [hx] at HZ HP hsz
      rw [hmx] at hsz
      clear hpl hx
      go_enter Tryz.func5, Tryz.ntmps5
      go_wp2_with (first
        | (go_at_call 16; refine HB.out.mono ?_; rintro e w' ⟨rfl, rfl⟩)
        | (go_at_call 13; refine HY.out.mono ?_; rintro e w' ⟨rfl, rfl⟩)
        | (go_at_call 17; refine HZ.out.mono ?_; rintro e w2 ⟨rfl, hb2⟩)
        | (go_at_call 15; refine (HP.out _).mono ?_; rintro e w' ⟨rfl, rfl⟩))
      go_ret
      exact ⟨rfl, hb2⟩
    · have HY := Lib.hid (plain_no s n hn hm hpl W)
      clear hpl
      go_enter Tryz.func5, Tryz.ntmps5
      go_wp2_with (first
        | (go_at_call 16; refine HB.out.mono ?_; rintro e w' ⟨rfl, rfl⟩)
        | (go_at_call 13; refine HY.out.mono ?_; rintro e w' ⟨rfl, rfl⟩))
      go_ret
      exact ⟨rfl, Below.refl _ _⟩

end Go.Proofs.YtgaeeklmifjigaaGreatFmt
