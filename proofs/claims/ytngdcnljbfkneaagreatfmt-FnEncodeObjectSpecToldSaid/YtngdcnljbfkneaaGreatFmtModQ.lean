/- The model of a jq string's text: escapes, UTF-8 sequences, the whole. -/
import Derived.Test.YtngdcnljbfkneaaGreatFmtFacts
import Derived.Test.YtngdcnljbfkneaaGreatFmtEncA
import Derived.Test.YtngdcnljbfkneaaGreatFmtOwn
import Derived.Test.YtngdcnljbfkneaaGreatFmtStr
import Derived.Test.YtngdcnljbfkneaaGreatFmtQuo
import Derived.Handy
import Derived.WalkSmall
import Derived.Laws.Strings2
namespace Go.Proofs.YtngdcnljbfkneaaGreatFmt
open Go.RowKit Go.Deep

theorem hexD_all : ∀ i : Fin 16, ((Quo.hexD i.1).toNat : Int) = if i.1 < 10 then 48 + (i.1 : Int) else 87 + (i.1 : Int) := by decide +kernel
theorem hexd_any (x : Int) (h0 : 0 ≤ x) (h1 : x < 16) (w : World) : Calls Tryz.prog 24 #[.int .u8 x] w fun e w' => e = .returned (.int .u8 ((Quo.hexD x.toNat).toNat : Int)) ∧ w = w' := by
  have hx := hexD_all ⟨x.toNat, by omega⟩
  simp only at hx
  obtain ⟨y, hy⟩ : ∃ y : Int, ((Quo.hexD x.toNat).toNat : Int) = y := ⟨_, rfl⟩
  rw [hy] at hx ⊢
  clear hy
  by_cases c : x < 10
  · rw [if_pos (by omega), show ((x.toNat : Nat) : Int) = x by omega] at hx
    subst hx
    go_enter Tryz.func24, Tryz.ntmps24
    go_wp2
    go_ret
    exact ⟨by first | rfl | go_num | (congr 2; omega), rfl⟩
  · rw [if_neg (by omega), show ((x.toNat : Nat) : Int) = x by omega] at hx
    subst hx
    go_enter Tryz.func24, Tryz.ntmps24
    go_wp2
    go_ret
    exact ⟨by first | rfl | go_num | (congr 2; omega), rfl⟩
set_option maxRecDepth 100000 in
set_option maxHeartbeats 8000000 in
theorem appEsc_any (B : Nat) (W w : World) (v : Value) (l : List UInt8) (hb : Own.Buf 5 B W w v l) (b : UInt8) (z : Int) (hz : (b.toNat : Int) = z) (hlen : l.length ≤ 100000000) :
    Calls Tryz.prog 18 #[v, .int .u8 z] w fun e w' => ∃ v', e = .returned v' ∧ Own.Buf 5 B W w' v' (l ++ Quo.esc b) := by
  have HB := Lib.hid hb
  have HL := Lib.hid hlen
  have hz0 : 0 ≤ z ∧ z ≤ 255 := by have := b.toNat_lt; omega
  have HZ := Lib.hid hz
  clear hb hlen hz
  rcases (show z = 34 ∨ z = 92 ∨ z = 8 ∨ z = 12 ∨ z = 10 ∨ z = 13 ∨ z = 9 ∨ (z ≠ 34 ∧ z ≠ 92 ∧ z ≠ 8 ∧ z ≠ 12 ∧ z ≠ 10 ∧ z ≠ 13 ∧ z ≠ 9) by omega) with hcz | hcz | hcz | hcz | hcz | hcz | hcz | hcz
  · subst hcz
    have HO : Hid (Quo.esc b = [92, 34]) := Lib.hid (by have hz := HZ.out; unfold Quo.esc; simp only [show b.toNat = 34 by omega]; rfl)
    go_enter Tryz.func18, Tryz.ntmps18
    go_wp2_with (at_builtin; refine Own.wpList_buf_bytes rfl _ _ 33 rfl 5 Tryz.underlying33 info_u8e B W _ _ rfl (HB.out.alloc _) ⟨w.heap.size, 0, none⟩ 2 2 [92, 34] rfl rfl (Own.new_cells _ _ _ _ rfl) (by have := HL.out; simp only [List.length_cons, List.length_nil]; omega) ?_)
    intro v' w' hb'
    go_wp2
    go_ret
    exact ⟨_, rfl, by rw [HO.out]; exact hb'⟩
  · subst hcz
    have HO : Hid (Quo.esc b = [92, 92]) := Lib.hid (by have hz := HZ.out; unfold Quo.esc; simp only [show b.toNat = 92 by omega]; rfl)
    go_enter Tryz.func18, Tryz.ntmps18
    go_wp2_with (at_builtin; refine Own.wpList_buf_bytes rfl _ _ 33 rfl 5 Tryz.underlying33 info_u8e B W _ _ rfl (HB.out.alloc _) ⟨w.heap.size, 0, none⟩ 2 2 [92, 92] rfl rfl (Own.new_cells _ _ _ _ rfl) (by have := HL.out; simp only [List.length_cons, List.length_nil]; omega) ?_)
    intro v' w' hb'
    go_wp2
    go_ret
    exact ⟨_, rfl, by rw [HO.out]; exact hb'⟩
  · subst hcz
    have HO : Hid (Quo.esc b = [92, 98]) := Lib.hid (by have hz := HZ.out; unfold Quo.esc; simp only [show b.toNat = 8 by omega]; rfl)
    go_enter Tryz.func18, Tryz.ntmps18
    go_wp2_with (at_builtin; refine Own.wpList_buf_bytes rfl _ _ 33 rfl 5 Tryz.underlying33 info_u8e B W _ _ rfl (HB.out.alloc _) ⟨w.heap.size, 0, none⟩ 2 2 [92, 98] rfl rfl (Own.new_cells _ _ _ _ rfl) (by have := HL.out; simp only [List.length_cons, List.length_nil]; omega) ?_)
    intro v' w' hb'
    go_wp2
    go_ret
    exact ⟨_, rfl, by rw [HO.out]; exact hb'⟩
  · subst hcz
    have HO : Hid (Quo.esc b = [92, 102]) := Lib.hid (by have hz := HZ.out; unfold Quo.esc; simp only [show b.toNat = 12 by omega]; rfl)
    go_enter Tryz.func18, Tryz.ntmps18
    go_wp2_with (at_builtin; refine Own.wpList_buf_bytes rfl _ _ 33 rfl 5 Tryz.underlying33 info_u8e B W _ _ rfl (HB.out.alloc _) ⟨w.heap.size, 0, none⟩ 2 2 [92, 102] rfl rfl (Own.new_cells _ _ _ _ rfl) (by have := HL.out; simp only [List.length_cons, List.length_nil]; omega) ?_)
    intro v' w' hb'
    go_wp2
    go_ret
    exact ⟨_, rfl, by rw [HO.out]; exact hb'⟩
  · subst hcz
    have HO : Hid (Quo.esc b = [92, 110]) := Lib.hid (by have hz := HZ.out; unfold Quo.esc; simp only [show b.toNat = 10 by omega]; rfl)
    go_enter Tryz.func18, Tryz.ntmps18
    go_wp2_with (at_builtin; refine Own.wpList_buf_bytes rfl _ _ 33 rfl 5 Tryz.underlying33 info_u8e B W _ _ rfl (HB.out.alloc _) ⟨w.heap.size, 0, none⟩ 2 2 [92, 110] rfl rfl (Own.new_cells _ _ _ _ rfl) (by have := HL.out; simp only [List.length_cons, List.length_nil]; omega) ?_)
    intro v' w' hb'
    go_wp2
    go_ret
    exact ⟨_, rfl, by rw [HO.out]; exact hb'⟩
  · subst hcz
    have HO : Hid (Quo.esc b = [92, 114]) := Lib.hid (by have hz := HZ.out; unfold Quo.esc; simp only [show b.toNat = 13 by omega]; rfl)
    go_enter Tryz.func18, Tryz.ntmps18
    go_wp2_with (at_builtin; refine Own.wpList_buf_bytes rfl _ _ 33 rfl 5 Tryz.underlying33 info_u8e B W _ _ rfl (HB.out.alloc _) ⟨w.heap.size, 0, none⟩ 2 2 [92, 114] rfl rfl (Own.new_cells _ _ _ _ rfl) (by have := HL.out; simp only [List.length_cons, List.length_nil]; omega) ?_)
    intro v' w' hb'
    go_wp2
    go_ret
    exact ⟨_, rfl, by rw [HO.out]; exact hb'⟩
  · subst hcz
    have HO : Hid (Quo.esc b = [92, 116]) := Lib.hid (by have hz := HZ.out; unfold Quo.esc; simp only [show b.toNat = 9 by omega]; rfl)
    go_enter Tryz.func18, Tryz.ntmps18
    go_wp2_with (at_builtin; refine Own.wpList_buf_bytes rfl _ _ 33 rfl 5 Tryz.underlying33 info_u8e B W _ _ rfl (HB.out.alloc _) ⟨w.heap.size, 0, none⟩ 2 2 [92, 116] rfl rfl (Own.new_cells _ _ _ _ rfl) (by have := HL.out; simp only [List.length_cons, List.length_nil]; omega) ?_)
    intro v' w' hb'
    go_wp2
    go_ret
    exact ⟨_, rfl, by rw [HO.out]; exact hb'⟩
  · obtain ⟨q1, q2, q3, q4, q5, q6, q7⟩ := hcz
    have hz := HZ.out
    have hne : ∀ y : Int, z ≠ y → (z == y) = false := fun y h => by simpa using h
    have e1 := hne 34 q1
    have e2 := hne 92 q2
    have e3 := hne 8 q3
    have e4 := hne 12 q4
    have e5 := hne 10 q5
    have e6 := hne 13 q6
    have e7 := hne 9 q7
    by_cases c : z < 32 ∨ z = 127
    · have HO : Hid (Quo.esc b = [92, 117, 48, 48, Quo.hexD (b.toNat / 16), Quo.hexD (b.toNat % 16)]) := Lib.hid (by unfold Quo.esc; rw [if_neg (by omega), if_neg (by omega), if_neg (by omega), if_neg (by omega), if_neg (by omega), if_neg (by omega), if_neg (by omega), if_pos (by omega)])
      have HA : Hid (∀ w, Calls Tryz.prog 24 #[.int .u8 (z / 16)] w fun e w' => e = .returned (.int .u8 ((Quo.hexD (b.toNat / 16)).toNat : Int)) ∧ w = w') := Lib.hid fun w => by
        have := hexd_any (z / 16) (by omega) (by omega) w
        rw [show (z / 16).toNat = b.toNat / 16 by omega] at this
        exact this
      have HC : Hid (∀ w, Calls Tryz.prog 24 #[.int .u8 (z % 16)] w fun e w' => e = .returned (.int .u8 ((Quo.hexD (b.toNat % 16)).toNat : Int)) ∧ w = w') := Lib.hid fun w => by
        have := hexd_any (z % 16) (by omega) (by omega) w
        rw [show (z % 16).toNat = b.toNat % 16 by omega] at this
        exact this
      obtain ⟨p, hp⟩ : ∃ p, Quo.hexD (b.toNat / 16) = p := ⟨_, rfl⟩
      obtain ⟨q, hq⟩ : ∃ q, Quo.hexD (b.toNat % 16) = q := ⟨_, rfl⟩
      rw [hp] at HA HO
      rw [hq] at HC HO
      clear hp hq hne hz
      by_cases c32 : z < 32
      · have cu : True := trivial
        go_enter Tryz.func18, Tryz.ntmps18
        go_wp2_with (first
          | (go_at_call 24; first | ((with_reducible refine (HA.out _).mono ?_); rintro e w9 ⟨rfl, rfl⟩) | ((with_reducible refine (HC.out _).mono ?_); rintro e w9 ⟨rfl, rfl⟩))
          | (at_builtin; refine Own.wpList_buf_bytes rfl _ _ 33 rfl 5 Tryz.underlying33 info_u8e B W _ _ rfl (HB.out.alloc _) ⟨w.heap.size, 0, none⟩ 6 6 [92, 117, 48, 48, p, q] rfl rfl (Own.new_cells _ _ _ _ rfl) (by have := HL.out; simp only [List.length_cons, List.length_nil]; omega) ?_))
        intro v' w' hb'
        go_wp2
        go_ret
        exact ⟨_, rfl, by rw [HO.out]; exact hb'⟩
      · obtain rfl : z = 127 := by omega
        replace HA : Hid (∀ w, Calls Tryz.prog 24 #[.int .u8 7] w fun e w' => e = .returned (.int .u8 (p.toNat : Int)) ∧ w = w') := HA
        replace HC : Hid (∀ w, Calls Tryz.prog 24 #[.int .u8 15] w fun e w' => e = .returned (.int .u8 (q.toNat : Int)) ∧ w = w') := HC
        go_enter Tryz.func18, Tryz.ntmps18
        go_wp2_with (first
          | (go_at_call 24; first | ((with_reducible refine (HA.out _).mono ?_); rintro e w9 ⟨rfl, rfl⟩) | ((with_reducible refine (HC.out _).mono ?_); rintro e w9 ⟨rfl, rfl⟩))
          | (at_builtin; refine Own.wpList_buf_bytes rfl _ _ 33 rfl 5 Tryz.underlying33 info_u8e B W _ _ rfl (HB.out.alloc _) ⟨w.heap.size, 0, none⟩ 6 6 [92, 117, 48, 48, p, q] rfl rfl (Own.new_cells _ _ _ _ rfl) (by have := HL.out; simp only [List.length_cons, List.length_nil]; omega) ?_))
        intro v' w' hb'
        go_wp2
        go_ret
        exact ⟨_, rfl, by rw [HO.out]; exact hb'⟩
    · have HO : Hid (Quo.esc b = [b]) := Lib.hid (by unfold Quo.esc; rw [if_neg (by omega), if_neg (by omega), if_neg (by omega), if_neg (by omega), if_neg (by omega), if_neg (by omega), if_neg (by omega), if_neg (by omega)])
      have c1 : ¬ z < 32 := by omega
      have c2 : ¬ z = 127 := by omega
      have c3 := hne 127 c2
      clear c hne
      subst hz
      go_enter Tryz.func18, Tryz.ntmps18
      go_wp2_with (at_builtin; refine Own.wpList_buf_bytes rfl _ _ 33 rfl 5 Tryz.underlying33 info_u8e B W _ _ rfl (HB.out.alloc _) ⟨w.heap.size, 0, none⟩ 1 1 [b] rfl rfl (Own.new_cells _ _ _ _ rfl) (by have := HL.out; simp only [List.length_cons, List.length_nil]; omega) ?_)
      intro v' w' hb'
      go_wp2
      go_ret
      exact ⟨_, rfl, by rw [HO.out]; exact hb'⟩
set_option maxRecDepth 100000 in
set_option maxHeartbeats 16000000 in
theorem vseq_any (s : ByteArray) (n k : Nat) (hn : s.size = n) (hk : k < n) (hsz : n ≤ 1048576) (h128 : ¬ Quo.at0 s.data.toList k < 128) (w : World) :
    Calls Tryz.prog 19 #[.string s, .int .i64 k] w fun e w' => e = .returned (.int .i64 (Quo.seqAt s.data.toList k)) ∧ w = w' := by
  have hl : s.data.toList.length = n := hn
  have lt : ∀ i, Quo.at0 s.data.toList i < 256 := fun i => (s.data.toList.getD i 0).toNat_lt
  obtain ⟨b0, hb0⟩ : ∃ b : Int, ((Quo.at0 s.data.toList k : Nat) : Int) = b := ⟨_, rfl⟩
  obtain ⟨b1, hb1⟩ : ∃ b : Int, ((Quo.at0 s.data.toList (k + 1) : Nat) : Int) = b := ⟨_, rfl⟩
  obtain ⟨b2, hb2⟩ : ∃ b : Int, ((Quo.at0 s.data.toList (k + 2) : Nat) : Int) = b := ⟨_, rfl⟩
  obtain ⟨b3, hb3⟩ : ∃ b : Int, ((Quo.at0 s.data.toList (k + 3) : Nat) : Int) = b := ⟨_, rfl⟩
  have l0 := lt k
  have l1 := lt (k + 1)
  have l2 := lt (k + 2)
  have l3 := lt (k + 3)
  obtain ⟨V, hV⟩ : ∃ V, Quo.seqAt s.data.toList k = V := ⟨_, rfl⟩
  have hV2 := hV
  rw [hV]
  unfold Quo.seqAt at hV2
  rw [hl] at hV2
  have i0 := fun w => Str.idx_str (P := Tryz.prog) 9 Tryz.underlying9 s .i64 (k : Int) k rfl (by omega) w
  have i1 : k + 1 < n → ∀ w, _ := fun h w => Str.idx_str (P := Tryz.prog) 9 Tryz.underlying9 s .i64 ((k : Int) + 1) (k + 1) (by omega) (by omega) w
  have i2 : k + 2 < n → ∀ w, _ := fun h w => Str.idx_str (P := Tryz.prog) 9 Tryz.underlying9 s .i64 ((k : Int) + 2) (k + 2) (by omega) (by omega) w
  have i3 : k + 3 < n → ∀ w, _ := fun h w => Str.idx_str (P := Tryz.prog) 9 Tryz.underlying9 s .i64 ((k : Int) + 3) (k + 3) (by omega) (by omega) w
  rw [show ((s.data.toList.getD k 0).toNat : Int) = b0 from hb0] at i0
  rw [show ((s.data.toList.getD (k + 1) 0).toNat : Int) = b1 from hb1] at i1
  rw [show ((s.data.toList.getD (k + 2) 0).toNat : Int) = b2 from hb2] at i2
  rw [show ((s.data.toList.getD (k + 3) 0).toNat : Int) = b3 from hb3] at i3
  have hsn : (s.size : Int) = n := by omega
  obtain ⟨m0, hm0⟩ : ∃ m, Quo.at0 s.data.toList k = m := ⟨_, rfl⟩
  obtain ⟨m1, hm1⟩ : ∃ m, Quo.at0 s.data.toList (k + 1) = m := ⟨_, rfl⟩
  obtain ⟨m2, hm2⟩ : ∃ m, Quo.at0 s.data.toList (k + 2) = m := ⟨_, rfl⟩
  obtain ⟨m3, hm3⟩ : ∃ m, Quo.at0 s.data.toList (k + 3) = m := ⟨_, rfl⟩
  rw [hm0] at hb0 hV2 l0 h128
  rw [hm1] at hb1 hV2 l1
  rw [hm2] at hb2 hV2 l2
  rw [hm3] at hb3 hV2 l3
  have R0 := Lib.hid (And.intro hb0 (And.intro l0 h128))
  have R1 := Lib.hid (And.intro hb1 l1)
  have R2 := Lib.hid (And.intro hb2 l2)
  have R3 := Lib.hid (And.intro hb3 l3)
  have RV := Lib.hid hV2
  have RN := Lib.hid hn
  have r0 : 128 ≤ b0 ∧ b0 ≤ 255 := by omega
  have r1 : 0 ≤ b1 ∧ b1 ≤ 255 := by omega
  have r2 : 0 ≤ b2 ∧ b2 ≤ 255 := by omega
  have r3 : 0 ≤ b3 ∧ b3 ≤ 255 := by omega
  clear hb0 hb1 hb2 hb3 l0 l1 l2 l3 hV2 hV hm0 hm1 hm2 hm3 lt hl hn h128
  rcases (show n = k + 1 ∨ n = k + 2 ∨ n = k + 3 ∨ k + 4 ≤ n by omega) with hc | hc | hc | hc
  · have t1 : ¬ ((k : Int) + 1 < n) := by omega
    have t2 : ¬ ((k : Int) + 2 < n) := by omega
    have t3 : ¬ ((k : Int) + 3 < n) := by omega
    clear i1 i2 i3
    rcases (show b0 = 224 ∨ b0 = 237 ∨ b0 = 240 ∨ b0 = 244 ∨ (b0 ≠ 224 ∧ b0 ≠ 237 ∧ b0 ≠ 240 ∧ b0 ≠ 244) by omega) with rfl | rfl | rfl | rfl | hb
    · clear r0
      go_enter Tryz.func19, Tryz.ntmps19
      go_wp2_with go_in
      all_goals go_ret
      all_goals first
        | (have e : V = 0 := (by (have h0 := R0.out; have h1 := R1.out; have h2 := R2.out; have h3 := R3.out; have hv := RV.out; have hn := RN.out; unfold Quo.vseq at hv; repeat' split at hv) <;> omega); subst e; exact ⟨rfl, rfl⟩)
        | (have e : V = 2 := (by (have h0 := R0.out; have h1 := R1.out; have h2 := R2.out; have h3 := R3.out; have hv := RV.out; have hn := RN.out; unfold Quo.vseq at hv; repeat' split at hv) <;> omega); subst e; exact ⟨rfl, rfl⟩)
        | (have e : V = 3 := (by (have h0 := R0.out; have h1 := R1.out; have h2 := R2.out; have h3 := R3.out; have hv := RV.out; have hn := RN.out; unfold Quo.vseq at hv; repeat' split at hv) <;> omega); subst e; exact ⟨rfl, rfl⟩)
        | (have e : V = 4 := (by (have h0 := R0.out; have h1 := R1.out; have h2 := R2.out; have h3 := R3.out; have hv := RV.out; have hn := RN.out; unfold Quo.vseq at hv; repeat' split at hv) <;> omega); subst e; exact ⟨rfl, rfl⟩)
    · clear r0
      go_enter Tryz.func19, Tryz.ntmps19
      go_wp2_with go_in
      all_goals go_ret
      all_goals first
        | (have e : V = 0 := (by (have h0 := R0.out; have h1 := R1.out; have h2 := R2.out; have h3 := R3.out; have hv := RV.out; have hn := RN.out; unfold Quo.vseq at hv; repeat' split at hv) <;> omega); subst e; exact ⟨rfl, rfl⟩)
        | (have e : V = 2 := (by (have h0 := R0.out; have h1 := R1.out; have h2 := R2.out; have h3 := R3.out; have hv := RV.out; have hn := RN.out; unfold Quo.vseq at hv; repeat' split at hv) <;> omega); subst e; exact ⟨rfl, rfl⟩)
        | (have e : V = 3 := (by (have h0 := R0.out; have h1 := R1.out; have h2 := R2.out; have h3 := R3.out; have hv := RV.out; have hn := RN.out; unfold Quo.vseq at hv; repeat' split at hv) <;> omega); subst e; exact ⟨rfl, rfl⟩)
        | (have e : V = 4 := (by (have h0 := R0.out; have h1 := R1.out; have h2 := R2.out; have h3 := R3.out; have hv := RV.out; have hn := RN.out; unfold Quo.vseq at hv; repeat' split at hv) <;> omega); subst e; exact ⟨rfl, rfl⟩)
    · clear r0
      go_enter Tryz.func19, Tryz.ntmps19
      go_wp2_with go_in
      all_goals go_ret
      all_goals first
        | (have e : V = 0 := (by (have h0 := R0.out; have h1 := R1.out; have h2 := R2.out; have h3 := R3.out; have hv := RV.out; have hn := RN.out; unfold Quo.vseq at hv; repeat' split at hv) <;> omega); subst e; exact ⟨rfl, rfl⟩)
        | (have e : V = 2 := (by (have h0 := R0.out; have h1 := R1.out; have h2 := R2.out; have h3 := R3.out; have hv := RV.out; have hn := RN.out; unfold Quo.vseq at hv; repeat' split at hv) <;> omega); subst e; exact ⟨rfl, rfl⟩)
        | (have e : V = 3 := (by (have h0 := R0.out; have h1 := R1.out; have h2 := R2.out; have h3 := R3.out; have hv := RV.out; have hn := RN.out; unfold Quo.vseq at hv; repeat' split at hv) <;> omega); subst e; exact ⟨rfl, rfl⟩)
        | (have e : V = 4 := (by (have h0 := R0.out; have h1 := R1.out; have h2 := R2.out; have h3 := R3.out; have hv := RV.out; have hn := RN.out; unfold Quo.vseq at hv; repeat' split at hv) <;> omega); subst e; exact ⟨rfl, rfl⟩)
    · clear r0
      go_enter Tryz.func19, Tryz.ntmps19
      go_wp2_with go_in
      all_goals go_ret
      all_goals first
        | (have e : V = 0 := (by (have h0 := R0.out; have h1 := R1.out; have h2 := R2.out; have h3 := R3.out; have hv := RV.out; have hn := RN.out; unfold Quo.vseq at hv; repeat' split at hv) <;> omega); subst e; exact ⟨rfl, rfl⟩)
        | (have e : V = 2 := (by (have h0 := R0.out; have h1 := R1.out; have h2 := R2.out; have h3 := R3.out; have hv := RV.out; have hn := RN.out; unfold Quo.vseq at hv; repeat' split at hv) <;> omega); subst e; exact ⟨rfl, rfl⟩)
        | (have e : V = 3 := (by (have h0 := R0.out; have h1 := R1.out; have h2 := R2.out; have h3 := R3.out; have hv := RV.out; have hn := RN.out; unfold Quo.vseq at hv; repeat' split at hv) <;> omega); subst e; exact ⟨rfl, rfl⟩)
        | (have e : V = 4 := (by (have h0 := R0.out; have h1 := R1.out; have h2 := R2.out; have h3 := R3.out; have hv := RV.out; have hn := RN.out; unfold Quo.vseq at hv; repeat' split at hv) <;> omega); subst e; exact ⟨rfl, rfl⟩)
    · have e1 : (b0 == 224) = false := by simpa using hb.1
      have e2 : (b0 == 237) = false := by simpa using hb.2.1
      have e3 : (b0 == 240) = false := by simpa using hb.2.2.1
      have e4 : (b0 == 244) = false := by simpa using hb.2.2.2
      have HB := Lib.hid hb
      clear hb
      go_enter Tryz.func19, Tryz.ntmps19
      go_wp2_with go_in
      all_goals go_ret
      all_goals first
        | (have e : V = 0 := (by (have h0 := R0.out; have h1 := R1.out; have h2 := R2.out; have h3 := R3.out; have hv := RV.out; have hn := RN.out; have hb := HB.out; unfold Quo.vseq at hv; repeat' split at hv) <;> omega); subst e; exact ⟨rfl, rfl⟩)
        | (have e : V = 2 := (by (have h0 := R0.out; have h1 := R1.out; have h2 := R2.out; have h3 := R3.out; have hv := RV.out; have hn := RN.out; have hb := HB.out; unfold Quo.vseq at hv; repeat' split at hv) <;> omega); subst e; exact ⟨rfl, rfl⟩)
        | (have e : V = 3 := (by (have h0 := R0.out; have h1 := R1.out; have h2 := R2.out; have h3 := R3.out; have hv := RV.out; have hn := RN.out; have hb := HB.out; unfold Quo.vseq at hv; repeat' split at hv) <;> omega); subst e; exact ⟨rfl, rfl⟩)
        | (have e : V = 4 := (by (have h0 := R0.out; have h1 := R1.out; have h2 := R2.out; have h3 := R3.out; have hv := RV.out; have hn := RN.out; have hb := HB.out; unfold Quo.vseq at hv; repeat' split at hv) <;> omega); subst e; exact ⟨rfl, rfl⟩)
  · have t1 : (k : Int) + 1 < n := by omega
    have t2 : ¬ ((k : Int) + 2 < n) := by omega
    have t3 : ¬ ((k : Int) + 3 < n) := by omega
    have j1 := i1 (by omega)
    clear i1 i2 i3
    rcases (show b0 = 224 ∨ b0 = 237 ∨ b0 = 240 ∨ b0 = 244 ∨ (b0 ≠ 224 ∧ b0 ≠ 237 ∧ b0 ≠ 240 ∧ b0 ≠ 244) by omega) with rfl | rfl | rfl | rfl | hb
    · clear r0
      go_enter Tryz.func19, Tryz.ntmps19
      go_wp2_with go_in
      all_goals go_ret
      all_goals first
        | (have e : V = 0 := (by (have h0 := R0.out; have h1 := R1.out; have h2 := R2.out; have h3 := R3.out; have hv := RV.out; have hn := RN.out; unfold Quo.vseq at hv; repeat' split at hv) <;> omega); subst e; exact ⟨rfl, rfl⟩)
        | (have e : V = 2 := (by (have h0 := R0.out; have h1 := R1.out; have h2 := R2.out; have h3 := R3.out; have hv := RV.out; have hn := RN.out; unfold Quo.vseq at hv; repeat' split at hv) <;> omega); subst e; exact ⟨rfl, rfl⟩)
        | (have e : V = 3 := (by (have h0 := R0.out; have h1 := R1.out; have h2 := R2.out; have h3 := R3.out; have hv := RV.out; have hn := RN.out; unfold Quo.vseq at hv; repeat' split at hv) <;> omega); subst e; exact ⟨rfl, rfl⟩)
        | (have e : V = 4 := (by (have h0 := R0.out; have h1 := R1.out; have h2 := R2.out; have h3 := R3.out; have hv := RV.out; have hn := RN.out; unfold Quo.vseq at hv; repeat' split at hv) <;> omega); subst e; exact ⟨rfl, rfl⟩)
    · clear r0
      go_enter Tryz.func19, Tryz.ntmps19
      go_wp2_with go_in
      all_goals go_ret
      all_goals first
        | (have e : V = 0 := (by (have h0 := R0.out; have h1 := R1.out; have h2 := R2.out; have h3 := R3.out; have hv := RV.out; have hn := RN.out; unfold Quo.vseq at hv; repeat' split at hv) <;> omega); subst e; exact ⟨rfl, rfl⟩)
        | (have e : V = 2 := (by (have h0 := R0.out; have h1 := R1.out; have h2 := R2.out; have h3 := R3.out; have hv := RV.out; have hn := RN.out; unfold Quo.vseq at hv; repeat' split at hv) <;> omega); subst e; exact ⟨rfl, rfl⟩)
        | (have e : V = 3 := (by (have h0 := R0.out; have h1 := R1.out; have h2 := R2.out; have h3 := R3.out; have hv := RV.out; have hn := RN.out; unfold Quo.vseq at hv; repeat' split at hv) <;> omega); subst e; exact ⟨rfl, rfl⟩)
        | (have e : V = 4 := (by (have h0 := R0.out; have h1 := R1.out; have h2 := R2.out; have h3 := R3.out; have hv := RV.out; have hn := RN.out; unfold Quo.vseq at hv; repeat' split at hv) <;> omega); subst e; exact ⟨rfl, rfl⟩)
    · clear r0
      go_enter Tryz.func19, Tryz.ntmps19
      go_wp2_with go_in
      all_goals go_ret
      all_goals first
        | (have e : V = 0 := (by (have h0 := R0.out; have h1 := R1.out; have h2 := R2.out; have h3 := R3.out; have hv := RV.out; have hn := RN.out; unfold Quo.vseq at hv; repeat' split at hv) <;> omega); subst e; exact ⟨rfl, rfl⟩)
        | (have e : V = 2 := (by (have h0 := R0.out; have h1 := R1.out; have h2 := R2.out; have h3 := R3.out; have hv := RV.out; have hn := RN.out; unfold Quo.vseq at hv; repeat' split at hv) <;> omega); subst e; exact ⟨rfl, rfl⟩)
        | (have e : V = 3 := (by (have h0 := R0.out; have h1 := R1.out; have h2 := R2.out; have h3 := R3.out; have hv := RV.out; have hn := RN.out; unfold Quo.vseq at hv; repeat' split at hv) <;> omega); subst e; exact ⟨rfl, rfl⟩)
        | (have e : V = 4 := (by (have h0 := R0.out; have h1 := R1.out; have h2 := R2.out; have h3 := R3.out; have hv := RV.out; have hn := RN.out; unfold Quo.vseq at hv; repeat' split at hv) <;> omega); subst e; exact ⟨rfl, rfl⟩)
    · clear r0
      go_enter Tryz.func19, Tryz.ntmps19
      go_wp2_with go_in
      all_goals go_ret
      all_goals first
        | (have e : V = 0 := (by (have h0 := R0.out; have h1 := R1.out; have h2 := R2.out; have h3 := R3.out; have hv := RV.out; have hn := RN.out; unfold Quo.vseq at hv; repeat' split at hv) <;> omega); subst e; exact ⟨rfl, rfl⟩)
        | (have e : V = 2 := (by (have h0 := R0.out; have h1 := R1.out; have h2 := R2.out; have h3 := R3.out; have hv := RV.out; have hn := RN.out; unfold Quo.vseq at hv; repeat' split at hv) <;> omega); subst e; exact ⟨rfl, rfl⟩)
        | (have e : V = 3 := (by (have h0 := R0.out; have h1 := R1.out; have h2 := R2.out; have h3 := R3.out; have hv := RV.out; have hn := RN.out; unfold Quo.vseq at hv; repeat' split at hv) <;> omega); subst e; exact ⟨rfl, rfl⟩)
        | (have e : V = 4 := (by (have h0 := R0.out; have h1 := R1.out; have h2 := R2.out; have h3 := R3.out; have hv := RV.out; have hn := RN.out; unfold Quo.vseq at hv; repeat' split at hv) <;> omega); subst e; exact ⟨rfl, rfl⟩)
    · have e1 : (b0 == 224) = false := by simpa using hb.1
      have e2 : (b0 == 237) = false := by simpa using hb.2.1
      have e3 : (b0 == 240) = false := by simpa using hb.2.2.1
      have e4 : (b0 == 244) = false := by simpa using hb.2.2.2
      have HB := Lib.hid hb
      clear hb
      go_enter Tryz.func19, Tryz.ntmps19
      go_wp2_with go_in
      all_goals go_ret
      all_goals first
        | (have e : V = 0 := (by (have h0 := R0.out; have h1 := R1.out; have h2 := R2.out; have h3 := R3.out; have hv := RV.out; have hn := RN.out; have hb := HB.out; unfold Quo.vseq at hv; repeat' split at hv) <;> omega); subst e; exact ⟨rfl, rfl⟩)
        | (have e : V = 2 := (by (have h0 := R0.out; have h1 := R1.out; have h2 := R2.out; have h3 := R3.out; have hv := RV.out; have hn := RN.out; have hb := HB.out; unfold Quo.vseq at hv; repeat' split at hv) <;> omega); subst e; exact ⟨rfl, rfl⟩)
        | (have e : V = 3 := (by (have h0 := R0.out; have h1 := R1.out; have h2 := R2.out; have h3 := R3.out; have hv := RV.out; have hn := RN.out; have hb := HB.out; unfold Quo.vseq at hv; repeat' split at hv) <;> omega); subst e; exact ⟨rfl, rfl⟩)
        | (have e : V = 4 := (by (have h0 := R0.out; have h1 := R1.out; have h2 := R2.out; have h3 := R3.out; have hv := RV.out; have hn := RN.out; have hb := HB.out; unfold Quo.vseq at hv; repeat' split at hv) <;> omega); subst e; exact ⟨rfl, rfl⟩)
  · have t1 : (k : Int) + 1 < n := by omega
    have t2 : (k : Int) + 2 < n := by omega
    have t3 : ¬ ((k : Int) + 3 < n) := by omega
    have j1 := i1 (by omega)
    have j2 := i2 (by omega)
    clear i1 i2 i3
    rcases (show b0 = 224 ∨ b0 = 237 ∨ b0 = 240 ∨ b0 = 244 ∨ (b0 ≠ 224 ∧ b0 ≠ 237 ∧ b0 ≠ 240 ∧ b0 ≠ 244) by omega) with rfl | rfl | rfl | rfl | hb
    · clear r0
      go_enter Tryz.func19, Tryz.ntmps19
      go_wp2_with go_in
      all_goals go_ret
      all_goals first
        | (have e : V = 0 := (by (have h0 := R0.out; have h1 := R1.out; have h2 := R2.out; have h3 := R3.out; have hv := RV.out; have hn := RN.out; unfold Quo.vseq at hv; repeat' split at hv) <;> omega); subst e; exact ⟨rfl, rfl⟩)
        | (have e : V = 2 := (by (have h0 := R0.out; have h1 := R1.out; have h2 := R2.out; have h3 := R3.out; have hv := RV.out; have hn := RN.out; unfold Quo.vseq at hv; repeat' split at hv) <;> omega); subst e; exact ⟨rfl, rfl⟩)
        | (have e : V = 3 := (by (have h0 := R0.out; have h1 := R1.out; have h2 := R2.out; have h3 := R3.out; have hv := RV.out; have hn := RN.out; unfold Quo.vseq at hv; repeat' split at hv) <;> omega); subst e; exact ⟨rfl, rfl⟩)
        | (have e : V = 4 := (by (have h0 := R0.out; have h1 := R1.out; have h2 := R2.out; have h3 := R3.out; have hv := RV.out; have hn := RN.out; unfold Quo.vseq at hv; repeat' split at hv) <;> omega); subst e; exact ⟨rfl, rfl⟩)
    · clear r0
      go_enter Tryz.func19, Tryz.ntmps19
      go_wp2_with go_in
      all_goals go_ret
      all_goals first
        | (have e : V = 0 := (by (have h0 := R0.out; have h1 := R1.out; have h2 := R2.out; have h3 := R3.out; have hv := RV.out; have hn := RN.out; unfold Quo.vseq at hv; repeat' split at hv) <;> omega); subst e; exact ⟨rfl, rfl⟩)
        | (have e : V = 2 := (by (have h0 := R0.out; have h1 := R1.out; have h2 := R2.out; have h3 := R3.out; have hv := RV.out; have hn := RN.out; unfold Quo.vseq at hv; repeat' split at hv) <;> omega); subst e; exact ⟨rfl, rfl⟩)
        | (have e : V = 3 := (by (have h0 := R0.out; have h1 := R1.out; have h2 := R2.out; have h3 := R3.out; have hv := RV.out; have hn := RN.out; unfold Quo.vseq at hv; repeat' split at hv) <;> omega); subst e; exact ⟨rfl, rfl⟩)
        | (have e : V = 4 := (by (have h0 := R0.out; have h1 := R1.out; have h2 := R2.out; have h3 := R3.out; have hv := RV.out; have hn := RN.out; unfold Quo.vseq at hv; repeat' split at hv) <;> omega); subst e; exact ⟨rfl, rfl⟩)
    · clear r0
      go_enter Tryz.func19, Tryz.ntmps19
      go_wp2_with go_in
      all_goals go_ret
      all_goals first
        | (have e : V = 0 := (by (have h0 := R0.out; have h1 := R1.out; have h2 := R2.out; have h3 := R3.out; have hv := RV.out; have hn := RN.out; unfold Quo.vseq at hv; repeat' split at hv) <;> omega); subst e; exact ⟨rfl, rfl⟩)
        | (have e : V = 2 := (by (have h0 := R0.out; have h1 := R1.out; have h2 := R2.out; have h3 := R3.out; have hv := RV.out; have hn := RN.out; unfold Quo.vseq at hv; repeat' split at hv) <;> omega); subst e; exact ⟨rfl, rfl⟩)
        | (have e : V = 3 := (by (have h0 := R0.out; have h1 := R1.out; have h2 := R2.out; have h3 := R3.out; have hv := RV.out; have hn := RN.out; unfold Quo.vseq at hv; repeat' split at hv) <;> omega); subst e; exact ⟨rfl, rfl⟩)
        | (have e : V = 4 := (by (have h0 := R0.out; have h1 := R1.out; have h2 := R2.out; have h3 := R3.out; have hv := RV.out; have hn := RN.out; unfold Quo.vseq at hv; repeat' split at hv) <;> omega); subst e; exact ⟨rfl, rfl⟩)
    · clear r0
      go_enter Tryz.func19, Tryz.ntmps19
      go_wp2_with go_in
      all_goals go_ret
      all_goals first
        | (have e : V = 0 := (by (have h0 := R0.out; have h1 := R1.out; have h2 := R2.out; have h3 := R3.out; have hv := RV.out; have hn := RN.out; unfold Quo.vseq at hv; repeat' split at hv) <;> omega); subst e; exact ⟨rfl, rfl⟩)
        | (have e : V = 2 := (by (have h0 := R0.out; have h1 := R1.out; have h2 := R2.out; have h3 := R3.out; have hv := RV.out; have hn := RN.out; unfold Quo.vseq at hv; repeat' split at hv) <;> omega); subst e; exact ⟨rfl, rfl⟩)
        | (have e : V = 3 := (by (have h0 := R0.out; have h1 := R1.out; have h2 := R2.out; have h3 := R3.out; have hv := RV.out; have hn := RN.out; unfold Quo.vseq at hv; repeat' split at hv) <;> omega); subst e; exact ⟨rfl, rfl⟩)
        | (have e : V = 4 := (by (have h0 := R0.out; have h1 := R1.out; have h2 := R2.out; have h3 := R3.out; have hv := RV.out; have hn := RN.out; unfold Quo.vseq at hv; repeat' split at hv) <;> omega); subst e; exact ⟨rfl, rfl⟩)
    · have e1 : (b0 == 224) = false := by simpa using hb.1
      have e2 : (b0 == 237) = false := by simpa using hb.2.1
      have e3 : (b0 == 240) = false := by simpa using hb.2.2.1
      have e4 : (b0 == 244) = false := by simpa using hb.2.2.2
      have HB := Lib.hid hb
      clear hb
      go_enter Tryz.func19, Tryz.ntmps19
      go_wp2_with go_in
      all_goals go_ret
      all_goals first
        | (have e : V = 0 := (by (have h0 := R0.out; have h1 := R1.out; have h2 := R2.out; have h3 := R3.out; have hv := RV.out; have hn := RN.out; have hb := HB.out; unfold Quo.vseq at hv; repeat' split at hv) <;> omega); subst e; exact ⟨rfl, rfl⟩)
        | (have e : V = 2 := (by (have h0 := R0.out; have h1 := R1.out; have h2 := R2.out; have h3 := R3.out; have hv := RV.out; have hn := RN.out; have hb := HB.out; unfold Quo.vseq at hv; repeat' split at hv) <;> omega); subst e; exact ⟨rfl, rfl⟩)
        | (have e : V = 3 := (by (have h0 := R0.out; have h1 := R1.out; have h2 := R2.out; have h3 := R3.out; have hv := RV.out; have hn := RN.out; have hb := HB.out; unfold Quo.vseq at hv; repeat' split at hv) <;> omega); subst e; exact ⟨rfl, rfl⟩)
        | (have e : V = 4 := (by (have h0 := R0.out; have h1 := R1.out; have h2 := R2.out; have h3 := R3.out; have hv := RV.out; have hn := RN.out; have hb := HB.out; unfold Quo.vseq at hv; repeat' split at hv) <;> omega); subst e; exact ⟨rfl, rfl⟩)
  · have t1 : (k : Int) + 1 < n := by omega
    have t2 : (k : Int) + 2 < n := by omega
    have t3 : (k : Int) + 3 < n := by omega
    have j1 := i1 (by omega)
    have j2 := i2 (by omega)
    have j3 := i3 (by omega)
    clear i1 i2 i3
    rcases (show b0 = 224 ∨ b0 = 237 ∨ b0 = 240 ∨ b0 = 244 ∨ (b0 ≠ 224 ∧ b0 ≠ 237 ∧ b0 ≠ 240 ∧ b0 ≠ 244) by omega) with rfl | rfl | rfl | rfl | hb
    · clear r0
      go_enter Tryz.func19, Tryz.ntmps19
      go_wp2_with go_in
      all_goals go_ret
      all_goals first
        | (have e : V = 0 := (by (have h0 := R0.out; have h1 := R1.out; have h2 := R2.out; have h3 := R3.out; have hv := RV.out; have hn := RN.out; unfold Quo.vseq at hv; repeat' split at hv) <;> omega); subst e; exact ⟨rfl, rfl⟩)
        | (have e : V = 2 := (by (have h0 := R0.out; have h1 := R1.out; have h2 := R2.out; have h3 := R3.out; have hv := RV.out; have hn := RN.out; unfold Quo.vseq at hv; repeat' split at hv) <;> omega); subst e; exact ⟨rfl, rfl⟩)
        | (have e : V = 3 := (by (have h0 := R0.out; have h1 := R1.out; have h2 := R2.out; have h3 := R3.out; have hv := RV.out; have hn := RN.out; unfold Quo.vseq at hv; repeat' split at hv) <;> omega); subst e; exact ⟨rfl, rfl⟩)
        | (have e : V = 4 := (by (have h0 := R0.out; have h1 := R1.out; have h2 := R2.out; have h3 := R3.out; have hv := RV.out; have hn := RN.out; unfold Quo.vseq at hv; repeat' split at hv) <;> omega); subst e; exact ⟨rfl, rfl⟩)
    · clear r0
      go_enter Tryz.func19, Tryz.ntmps19
      go_wp2_with go_in
      all_goals go_ret
      all_goals first
        | (have e : V = 0 := (by (have h0 := R0.out; have h1 := R1.out; have h2 := R2.out; have h3 := R3.out; have hv := RV.out; have hn := RN.out; unfold Quo.vseq at hv; repeat' split at hv) <;> omega); subst e; exact ⟨rfl, rfl⟩)
        | (have e : V = 2 := (by (have h0 := R0.out; have h1 := R1.out; have h2 := R2.out; have h3 := R3.out; have hv := RV.out; have hn := RN.out; unfold Quo.vseq at hv; repeat' split at hv) <;> omega); subst e; exact ⟨rfl, rfl⟩)
        | (have e : V = 3 := (by (have h0 := R0.out; have h1 := R1.out; have h2 := R2.out; have h3 := R3.out; have hv := RV.out; have hn := RN.out; unfold Quo.vseq at hv; repeat' split at hv) <;> omega); subst e; exact ⟨rfl, rfl⟩)
        | (have e : V = 4 := (by (have h0 := R0.out; have h1 := R1.out; have h2 := R2.out; have h3 := R3.out; have hv := RV.out; have hn := RN.out; unfold Quo.vseq at hv; repeat' split at hv) <;> omega); subst e; exact ⟨rfl, rfl⟩)
    · clear r0
      go_enter Tryz.func19, Tryz.ntmps19
      go_wp2_with go_in
      all_goals go_ret
      all_goals first
        | (have e : V = 0 := (by (have h0 := R0.out; have h1 := R1.out; have h2 := R2.out; have h3 := R3.out; have hv := RV.out; have hn := RN.out; unfold Quo.vseq at hv; repeat' split at hv) <;> omega); subst e; exact ⟨rfl, rfl⟩)
        | (have e : V = 2 := (by (have h0 := R0.out; have h1 := R1.out; have h2 := R2.out; have h3 := R3.out; have hv := RV.out; have hn := RN.out; unfold Quo.vseq at hv; repeat' split at hv) <;> omega); subst e; exact ⟨rfl, rfl⟩)
        | (have e : V = 3 := (by (have h0 := R0.out; have h1 := R1.out; have h2 := R2.out; have h3 := R3.out; have hv := RV.out; have hn := RN.out; unfold Quo.vseq at hv; repeat' split at hv) <;> omega); subst e; exact ⟨rfl, rfl⟩)
        | (have e : V = 4 := (by (have h0 := R0.out; have h1 := R1.out; have h2 := R2.out; have h3 := R3.out; have hv := RV.out; have hn := RN.out; unfold Quo.vseq at hv; repeat' split at hv) <;> omega); subst e; exact ⟨rfl, rfl⟩)
    · clear r0
      go_enter Tryz.func19, Tryz.ntmps19
      go_wp2_with go_in
      all_goals go_ret
      all_goals first
        | (have e : V = 0 := (by (have h0 := R0.out; have h1 := R1.out; have h2 := R2.out; have h3 := R3.out; have hv := RV.out; have hn := RN.out; unfold Quo.vseq at hv; repeat' split at hv) <;> omega); subst e; exact ⟨rfl, rfl⟩)
        | (have e : V = 2 := (by (have h0 := R0.out; have h1 := R1.out; have h2 := R2.out; have h3 := R3.out; have hv := RV.out; have hn := RN.out; unfold Quo.vseq at hv; repeat' split at hv) <;> omega); subst e; exact ⟨rfl, rfl⟩)
        | (have e : V = 3 := (by (have h0 := R0.out; have h1 := R1.out; have h2 := R2.out; have h3 := R3.out; have hv := RV.out; have hn := RN.out; unfold Quo.vseq at hv; repeat' split at hv) <;> omega); subst e; exact ⟨rfl, rfl⟩)
        | (have e : V = 4 := (by (have h0 := R0.out; have h1 := R1.out; have h2 := R2.out; have h3 := R3.out; have hv := RV.out; have hn := RN.out; unfold Quo.vseq at hv; repeat' split at hv) <;> omega); subst e; exact ⟨rfl, rfl⟩)
    · have e1 : (b0 == 224) = false := by simpa using hb.1
      have e2 : (b0 == 237) = false := by simpa using hb.2.1
      have e3 : (b0 == 240) = false := by simpa using hb.2.2.1
      have e4 : (b0 == 244) = false := by simpa using hb.2.2.2
      have HB := Lib.hid hb
      clear hb
      go_enter Tryz.func19, Tryz.ntmps19
      go_wp2_with go_in
      all_goals go_ret
      all_goals first
        | (have e : V = 0 := (by (have h0 := R0.out; have h1 := R1.out; have h2 := R2.out; have h3 := R3.out; have hv := RV.out; have hn := RN.out; have hb := HB.out; unfold Quo.vseq at hv; repeat' split at hv) <;> omega); subst e; exact ⟨rfl, rfl⟩)
        | (have e : V = 2 := (by (have h0 := R0.out; have h1 := R1.out; have h2 := R2.out; have h3 := R3.out; have hv := RV.out; have hn := RN.out; have hb := HB.out; unfold Quo.vseq at hv; repeat' split at hv) <;> omega); subst e; exact ⟨rfl, rfl⟩)
        | (have e : V = 3 := (by (have h0 := R0.out; have h1 := R1.out; have h2 := R2.out; have h3 := R3.out; have hv := RV.out; have hn := RN.out; have hb := HB.out; unfold Quo.vseq at hv; repeat' split at hv) <;> omega); subst e; exact ⟨rfl, rfl⟩)
        | (have e : V = 4 := (by (have h0 := R0.out; have h1 := R1.out; have h2 := R2.out; have h3 := R3.out; have hv := RV.out; have hn := RN.out; have hb := HB.out; unfold Quo.vseq at hv; repeat' split at hv) <;> omega); subst e; exact ⟨rfl, rfl⟩)
set_option maxRecDepth 100000 in
set_option maxHeartbeats 8000000 in
theorem modelQuote_any (s : ByteArray) (n : Nat) (hn : s.size = n) (hsz : n ≤ 1048576) (W : World) :
    Calls Tryz.prog 14 #[.string s] W fun e w' => e = .returned (.string ⟨(Quo.quote s.data.toList).toArray⟩) ∧ Below W.heap.size W w' := by
  have hl : s.data.toList.length = n := hn
  have HL := Lib.hid hl
  go_enter Tryz.func14, Tryz.ntmps14
  go_wp2_with (first
    | (at_make; refine Own.wpList_make_buf rfl _ _ 33 rfl 5 Tryz.underlying33 info_u8e W.heap.size W (Below.refl _ _) (Nat.le_refl _) _ _ _ (n + 2) rfl rfl (by omega) (by omega) ?_; intro vm w1 hbm)
    | (at_builtin; refine Own.wpList_buf_bytes rfl _ _ 33 rfl 5 Tryz.underlying33 info_u8e W.heap.size W _ _ rfl (hbm.alloc _) ⟨w1.heap.size, 0, none⟩ 1 1 [34] rfl rfl (Own.new_cells _ _ _ _ rfl) (by decide) ?_))
  intro vs ws hbs
  have HS := Lib.hid (show Own.Buf 5 W.heap.size W ws vs [34] from by simpa using hbs)
  clear hbs hbm
  go_wp2_with fail
  go_loopw [3, 4] (fun v i wr => ∃ (k : Nat) (out : List UInt8), k ≤ n ∧ i = .int .i64 k ∧ Hid (Own.Buf 5 W.heap.size W wr v (34 :: out) ∧ Quo.Upto s.data.toList k out)) (fun _ i _ => n - (intOf i).toNat)
  case atStart => exact ⟨0, [], Nat.zero_le _, rfl, Lib.hid ⟨HS.out, Quo.Upto.start _⟩⟩
  case round =>
    obtain ⟨k, out, hk, rfl, HR⟩ := hrel
    have HLEN : Hid ((34 :: out).length ≤ 7000000) := Lib.hid (by have := HR.out.2.2.2; simp only [List.length_cons]; omega)
    by_cases hlt : k < n
    · have hi0 := fun w => Str.idx_str (P := Tryz.prog) 9 Tryz.underlying9 s .i64 (k : Int) k rfl (by omega) w
      obtain ⟨c, hc⟩ : ∃ c, s.data.toList.getD k 0 = c := ⟨_, rfl⟩
      rw [hc] at hi0
      obtain ⟨z, hz⟩ : ∃ z : Int, (c.toNat : Int) = z := ⟨_, rfl⟩
      rw [hz] at hi0
      have HZ := Lib.hid hz
      have HC := Lib.hid hc
      have HAT : Hid (Quo.at0 s.data.toList k = c.toNat) := Lib.hid (by unfold Quo.at0; rw [hc])
      have HKL : Hid (k < s.data.toList.length) := Lib.hid (by have := HL.out; omega)
      have hz0 : 0 ≤ z ∧ z ≤ 255 := by have := c.toNat_lt; omega
      clear hz hc
      by_cases p0 : z < 128
      · have HN : Hid (Quo.Upto s.data.toList (k + 1) (out ++ Quo.esc c)) := Lib.hid (HR.out.2.step HKL.out 1 _ (by unfold Quo.stepW; rw [if_pos (by rw [HAT.out]; have := HZ.out; omega)]) (by unfold Quo.stepO; rw [if_pos (by rw [HAT.out]; have := HZ.out; omega), HC.out]))
        go_wp2_with (go_at_call 18; refine (appEsc_any W.heap.size W _ _ _ HR.out.1 c z HZ.out (by have := HLEN.out; omega)).mono ?_; rintro e w2 ⟨v2, rfl, hb2⟩)
        have hnew := Lib.hid (And.intro (show Own.Buf 5 W.heap.size W w2 v2 (34 :: (out ++ Quo.esc c)) from by simpa using hb2) HN.out)
        clear hb2
        go_wp2
        go_roundw
        case rel => exact ⟨k + 1, _, by omega, by go_num, hnew⟩
        case measure => simp [intOf]; omega
      · have HV := Lib.hid (fun w => vseq_any s n k hn hlt hsz (by rw [HAT.out]; have := HZ.out; omega) w)
        by_cases q0 : Quo.seqAt s.data.toList k = 0
        · have HN : Hid (Quo.Upto s.data.toList (k + 1) (out ++ [92, 117, 102, 102, 102, 100])) := Lib.hid (HR.out.2.step HKL.out 1 _ (by unfold Quo.stepW; rw [if_neg (by rw [HAT.out]; have := HZ.out; omega), if_pos q0]) (by unfold Quo.stepO; rw [if_neg (by rw [HAT.out]; have := HZ.out; omega), if_pos q0]))
          rw [q0] at HV
          go_wp2_with (first
            | (go_at_call 19; refine (HV.out _).mono ?_; rintro e w9 ⟨rfl, rfl⟩)
            | (at_builtin; refine Own.wpList_buf_bytes rfl _ _ 33 rfl 5 Tryz.underlying33 info_u8e W.heap.size W _ _ rfl (HR.out.1.alloc _) ⟨wr.heap.size, 0, none⟩ 6 6 [92, 117, 102, 102, 102, 100] rfl rfl (Own.new_cells _ _ _ _ rfl) (by have := HLEN.out; simp only [List.length_cons, List.length_nil] at this ⊢; omega) ?_))
          intro v2 w2 hb2
          have hnew := Lib.hid (And.intro (show Own.Buf 5 W.heap.size W w2 v2 (34 :: (out ++ [92, 117, 102, 102, 102, 100])) from by simpa using hb2) HN.out)
          clear hb2
          go_wp2
          go_roundw
          case rel => exact ⟨k + 1, _, by omega, by go_num, hnew⟩
          case measure => simp [intOf]; omega
        · have HW : Hid (Quo.stepW s.data.toList k = Quo.seqAt s.data.toList k) := Lib.hid (by unfold Quo.stepW; rw [if_neg (by rw [HAT.out]; have := HZ.out; omega), if_neg q0])
          have HO : Hid (Quo.stepO s.data.toList k = (s.data.toList.drop k).take (Quo.seqAt s.data.toList k)) := Lib.hid (by unfold Quo.stepO; rw [if_neg (by rw [HAT.out]; have := HZ.out; omega), if_neg q0])
          obtain ⟨V, hV⟩ : ∃ V, Quo.seqAt s.data.toList k = V := ⟨_, rfl⟩
          have hle := Quo.stepW_le s.data.toList k HKL.out
          have h4 := Quo.stepW_four s.data.toList k
          rw [HW.out, hV] at h4
          rw [HW.out, HL.out, hV] at hle
          rw [hV] at HW HO HV q0
          have HN : Hid (Quo.Upto s.data.toList (k + V) (out ++ (s.data.toList.drop k).take V)) := Lib.hid (HR.out.2.step HKL.out V _ HW.out HO.out)
          have hss : ∀ w, (Instr.slice 9 (.string s) (some (.int .i64 k)) (some (.int .i64 ((k : Int) + (V : Int)))) none).run Tryz.prog w = .ok (.string (s.extract k (k + V))) w := fun w => by
            rw [run_slice_string w 9 s .i64 .i64 k ((k : Int) + V) Tryz.underlying9 (by omega) (by omega) (by omega)]
            congr
          have hex : (s.extract k (k + V)).data.toList = (s.data.toList.drop k).take V := by
            rw [ByteArray.data_extract, Array.toList_extract, List.extract_eq_take_drop, Nat.add_sub_cancel_left]
          have HEX := Lib.hid hex
          have HXL : Hid (((s.data.toList.drop k).take V).length ≤ 4) := Lib.hid (by rw [List.length_take]; omega)
          have hv0 : ((V : Int) == 0) = false := by simp; omega
          clear hV hex
          go_wp2_with (first
            | (go_at_call 19; refine (HV.out _).mono ?_; rintro e w9 ⟨rfl, rfl⟩)
            | (at_builtin; refine Own.wpList_buf_str rfl _ _ 33 9 rfl 5 Tryz.underlying33 Tryz.underlying9 info_u8e W.heap.size W _ _ rfl HR.out.1 (s.extract k (k + V)) _ rfl HEX.out (by have := HLEN.out; have := HXL.out; omega) ?_))
          intro v2 w2 hb2
          have hnew := Lib.hid (And.intro (show Own.Buf 5 W.heap.size W w2 v2 (34 :: (out ++ (s.data.toList.drop k).take V)) from by simpa using hb2) HN.out)
          clear hb2
          go_wp2
          go_roundw
          case rel => exact ⟨k + V, _, hle, by go_num, hnew⟩
          case measure => simp [intOf]; omega
    · obtain rfl : k = n := by omega
      have HD : Hid (out = Quo.body s.data.toList) := Lib.hid (HR.out.2.done (by rw [HL.out]; exact Nat.le_refl _))
      go_wp2_with (at_builtin; refine Own.wpList_buf_bytes rfl _ _ 33 rfl 5 Tryz.underlying33 info_u8e W.heap.size W _ _ rfl (HR.out.1.alloc _) ⟨wr.heap.size, 0, none⟩ 1 1 [34] rfl rfl (Own.new_cells _ _ _ _ rfl) (by have := HLEN.out; simp only [List.length_cons, List.length_nil] at this ⊢; omega) ?_)
      intro v2 w2 hb2
      have HF : Hid (Own.Buf 5 W.heap.size W w2 v2 (Quo.quote s.data.toList)) := Lib.hid (by unfold Quo.quote; rw [← HD.out]; simpa using hb2)
      clear hb2
      have hcv := Own.own_text (P := Tryz.prog) 33 9 5 Tryz.underlying33 Tryz.underlying5 Tryz.underlying9 HF.out.row
      go_wp2
      go_ret
      exact ⟨rfl, HF.out.below⟩
end Go.Proofs.YtngdcnljbfkneaaGreatFmt
