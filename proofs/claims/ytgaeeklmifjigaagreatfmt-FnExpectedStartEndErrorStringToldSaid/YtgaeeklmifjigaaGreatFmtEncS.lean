/- Contracts: encodeString over the limited writer at printable texts without quote or backslash: what fits, and where the writer panics. -/
import Derived.Test.YtgaeeklmifjigaaGreatFmtLwP
import Derived.Test.YtgaeeklmifjigaaGreatFmtEncL
import Derived.Test.YtgaeeklmifjigaaGreatFmtStr
import Derived.Deep.LoopGhost
import Derived.WalkSmall
import Derived.StillTailTactics
namespace Go.Proofs.YtgaeeklmifjigaaGreatFmt
open Go.RowKit Go.Deep Go.Lib Go.Sort

/-- Printable, no quote, no backslash. -/
def Plain (c : UInt8) : Prop := 32 ≤ c.toNat ∧ c.toNat ≤ 126 ∧ c.toNat ≠ 34 ∧ c.toNat ≠ 92
theorem Lw.later {lw bb : Nat} {w w' : World} {l : List UInt8} (h : Lw lw bb w l) (hb : Below w.heap.size w w') : Lw lw bb w' l :=
  h.kept (hb.block lw h.lt.1) (hb.block bb h.lt.2)

set_option maxHeartbeats 4000000 in
set_option maxRecDepth 100000 in
theorem encStr_fits (lw bb eb n : Nat) (hne : lw ≠ bb) (hn1 : eb ≠ lw) (hn2 : eb ≠ bb) (s : ByteArray) (hn : s.size = n) (hsz : n ≤ 1048576) (hfit : n ≤ 29) (hpl : ∀ k, k < n → Plain (s.data.toList.getD k 0)) (W : World) (h : Lw lw bb W []) (hE : Enc 45 eb (lwI lw) W []) :
    Calls Tryz.prog 36 #[.pointer (some ⟨eb, 0, none⟩), .string s] W fun e w' => e = .returned (.tuple #[]) ∧ Lw lw bb w' (34 :: s.data.toList ++ [34]) ∧ Two lw bb W w' := by
  have hl : s.data.toList.length = n := hn
  have hlt := hE.lt
  have hw0 : W.cell? ⟨eb, 0, none⟩ = some (.iface 115 (.pointer (some ⟨lw, 0, none⟩))) := hE.writer
  have HW1 := Lib.hid (lw_writeByte lw bb hne [] 34 34 rfl (by simp) W h)
  have HWS : Hid (∀ w1, Lw lw bb w1 [34] → ∀ w, Below w1.heap.size w1 w → Calls Tryz.prog 285 #[.pointer (some ⟨lw, 0, none⟩), .string s] w fun e w' => e = .returned (.tuple #[.int .i64 n, .nilIface]) ∧ Lw lw bb w' (34 :: s.data.toList) ∧ Two lw bb w1 w') := Lib.hid fun w1 h1 w hb => by
    have h0 := lw_writeString lw bb hne [34] s s.data.toList rfl (by rw [hl]; simp; omega) w (h1.later hb)
    rw [hl] at h0
    exact h0.mono fun e w' ⟨h1, h2, h3⟩ => ⟨h1, h2, (Two.of_below hb).trans h3⟩
  have HWB : Hid (∀ w2, Lw lw bb w2 (34 :: s.data.toList) → Calls Tryz.prog 284 #[.pointer (some ⟨lw, 0, none⟩), .int .u8 34] w2 fun e w' => e = .returned .nilIface ∧ Lw lw bb w' (34 :: s.data.toList ++ [34]) ∧ Two lw bb w2 w') := Lib.hid fun w2 h2 =>
    lw_writeByte lw bb hne (34 :: s.data.toList) 34 34 rfl (by rw [List.length_cons, hl]; omega) w2 h2
  have HPL := Lib.hid hpl
  have HC : Hid (∀ w1 w, Two lw bb w1 w → eb < w1.heap.size → w1.cell? ⟨eb, 0, none⟩ = some (.iface 115 (.pointer (some ⟨lw, 0, none⟩))) → w.cell? ⟨eb, 0, none⟩ = some (.iface 115 (.pointer (some ⟨lw, 0, none⟩)))) :=
    Lib.hid fun w1 w ht hl hc => (World.cell?_of_block (w := w1) (ht.block eb hl hn1 hn2)).trans hc
  have HLT := Lib.hid hlt
  clear h hE hpl hl hlt
  go_enter Tryz.func36, Tryz.ntmps36
  go_wp2_with (go_at_call 284; refine HW1.out.mono ?_; rintro e w1 ⟨rfl, hL1, ht1⟩; have hw1 := HC.out _ _ ht1 HLT.out hw0; have HL1 := Lib.hid hL1; have HT1 := Lib.hid ht1; clear hL1 ht1)
  go_loopw [4, 5] (fun u i wr => ∃ k : Nat, k ≤ n ∧ u = .int .i64 0 ∧ i = .int .i64 k ∧ wr = w1) (fun _ i _ => n - (RowKit.intOf i).toNat)
  case atStart => exact ⟨0, Nat.zero_le _, rfl, rfl, rfl⟩
  case round =>
    obtain ⟨k, hk, rfl, rfl, rfl⟩ := hrel
    by_cases hlt : k < n
    · have hi0 := fun w => Str.idx_str (P := Tryz.prog) 9 Tryz.underlying9 s .i64 (k : Int) k rfl (by omega) w
      have hp := HPL.out k hlt
      obtain ⟨c, hc⟩ : ∃ c, s.data.toList.getD k 0 = c := ⟨_, rfl⟩
      rw [hc] at hi0 hp
      obtain ⟨z, hz⟩ : ∃ z : Int, (c.toNat : Int) = z := ⟨_, rfl⟩
      rw [hz] at hi0
      have p0 : z < 128 := by have := hp.2.1; omega
      have p1 : 32 ≤ z := by have := hp.1; omega
      have p2 : z ≤ 126 := by have := hp.2.1; omega
      have p3 : (z != 34) = true := by have := hp.2.2.1; simp; omega
      have p4 : (z != 92) = true := by have := hp.2.2.2; simp; omega
      have p5 : ¬ z = 34 := by have := hp.2.2.1; omega
      have p6 : ¬ z = 92 := by have := hp.2.2.2; omega
      clear hc hz hp
      go_wp2
      go_roundw
      case rel => exact ⟨k + 1, by omega, rfl, by go_num, trivial⟩
      case measure => simp [RowKit.intOf]; omega
    · obtain rfl : k = n := by omega
      rcases Nat.eq_zero_or_pos k with h0 | h0
      · have hz0 : ¬ ((0 : Int) < (k : Int)) := by omega
        have hL0 : Lw lw bb wr (34 :: s.data.toList) := by
          rw [List.eq_nil_of_length_eq_zero (show s.data.toList.length = 0 from hn.trans h0)]
          exact HL1.out
        go_wp2_with (go_at_call 284; refine (HWB.out _ hL0).mono ?_; rintro e w3 ⟨rfl, hL3, ht3⟩)
        go_returns
        exact ⟨rfl, hL3, HT1.out.trans ht3⟩
      · have hz0 : (0 : Int) < (k : Int) := by omega
        have hss : ∀ w, (Instr.slice 9 (.string s) (some (.int .i64 0)) none none).run Tryz.prog w = .ok (.string s) w := fun w => by
          rw [run_slice_string_l w 9 s Tryz.underlying9 .i64 0 (by omega) (by omega)]
          simp
        go_wp2_with fail
        
        go_region_with (go_at_call 285; refine (HWS.out _ HL1.out _ ?_).mono ?_; (first | exact Below.refl _ _ | exact (Below.refl _ _).drew | exact (Below.refl _ _).drew.drew); rintro e w2 ⟨rfl, hL2, ht2⟩)
        all_goals (have hw2 := HC.out _ _ ht2 (Nat.lt_of_lt_of_le HLT.out HT1.out.size) hw1)
        all_goals go_wp2_with (go_at_call 284; refine (HWB.out _ hL2).mono ?_; rintro e w3 ⟨rfl, hL3, ht3⟩)
        all_goals go_returns
        all_goals exact ⟨rfl, hL3, HT1.out.trans (ht2.trans ht3)⟩

set_option maxHeartbeats 4000000 in
set_option maxRecDepth 100000 in
theorem encStr_edge (lw bb eb n : Nat) (hne : lw ≠ bb) (hn1 : eb ≠ lw) (hn2 : eb ≠ bb) (s : ByteArray) (hn : s.size = n) (hsz : n ≤ 1048576) (hfit : n = 30) (hpl : ∀ k, k < n → Plain (s.data.toList.getD k 0)) (W : World) (h : Lw lw bb W []) (hE : Enc 45 eb (lwI lw) W []) :
    Calls Tryz.prog 36 #[.pointer (some ⟨eb, 0, none⟩), .string s] W fun e w' => e = .panicked [fullPanic] ∧ Lw lw bb w' (34 :: s.data.toList ++ [34]) ∧ Two lw bb W w' := by
  have hl : s.data.toList.length = n := hn
  have hlt := hE.lt
  have hw0 : W.cell? ⟨eb, 0, none⟩ = some (.iface 115 (.pointer (some ⟨lw, 0, none⟩))) := hE.writer
  have HW1 := Lib.hid (lw_writeByte lw bb hne [] 34 34 rfl (by simp) W h)
  have HWS : Hid (∀ w1, Lw lw bb w1 [34] → ∀ w, Below w1.heap.size w1 w → Calls Tryz.prog 285 #[.pointer (some ⟨lw, 0, none⟩), .string s] w fun e w' => e = .returned (.tuple #[.int .i64 n, .nilIface]) ∧ Lw lw bb w' (34 :: s.data.toList) ∧ Two lw bb w1 w') := Lib.hid fun w1 h1 w hb => by
    have h0 := lw_writeString lw bb hne [34] s s.data.toList rfl (by rw [hl]; simp; omega) w (h1.later hb)
    rw [hl] at h0
    exact h0.mono fun e w' ⟨h1, h2, h3⟩ => ⟨h1, h2, (Two.of_below hb).trans h3⟩
  have HWB : Hid (∀ w2, Lw lw bb w2 (34 :: s.data.toList) → Calls Tryz.prog 284 #[.pointer (some ⟨lw, 0, none⟩), .int .u8 34] w2 fun e w' => e = .panicked [fullPanic] ∧ Lw lw bb w' (34 :: s.data.toList ++ [34]) ∧ Two lw bb w2 w') := Lib.hid fun w2 h2 =>
    lw_writeByte_full lw bb hne (34 :: s.data.toList) 34 34 rfl (by rw [List.length_cons, hl]; omega) w2 h2
  have HPL := Lib.hid hpl
  have HC : Hid (∀ w1 w, Two lw bb w1 w → eb < w1.heap.size → w1.cell? ⟨eb, 0, none⟩ = some (.iface 115 (.pointer (some ⟨lw, 0, none⟩))) → w.cell? ⟨eb, 0, none⟩ = some (.iface 115 (.pointer (some ⟨lw, 0, none⟩)))) :=
    Lib.hid fun w1 w ht hl hc => (World.cell?_of_block (w := w1) (ht.block eb hl hn1 hn2)).trans hc
  have HLT := Lib.hid hlt
  clear h hE hpl hl hlt
  go_enter Tryz.func36, Tryz.ntmps36
  go_wp2_with (go_at_call 284; refine HW1.out.mono ?_; rintro e w1 ⟨rfl, hL1, ht1⟩; have hw1 := HC.out _ _ ht1 HLT.out hw0; have HL1 := Lib.hid hL1; have HT1 := Lib.hid ht1; clear hL1 ht1)
  go_loopw [4, 5] (fun u i wr => ∃ k : Nat, k ≤ n ∧ u = .int .i64 0 ∧ i = .int .i64 k ∧ wr = w1) (fun _ i _ => n - (RowKit.intOf i).toNat)
  case atStart => exact ⟨0, Nat.zero_le _, rfl, rfl, rfl⟩
  case round =>
    obtain ⟨k, hk, rfl, rfl, rfl⟩ := hrel
    by_cases hlt : k < n
    · have hi0 := fun w => Str.idx_str (P := Tryz.prog) 9 Tryz.underlying9 s .i64 (k : Int) k rfl (by omega) w
      have hp := HPL.out k hlt
      obtain ⟨c, hc⟩ : ∃ c, s.data.toList.getD k 0 = c := ⟨_, rfl⟩
      rw [hc] at hi0 hp
      obtain ⟨z, hz⟩ : ∃ z : Int, (c.toNat : Int) = z := ⟨_, rfl⟩
      rw [hz] at hi0
      have p0 : z < 128 := by have := hp.2.1; omega
      have p1 : 32 ≤ z := by have := hp.1; omega
      have p2 : z ≤ 126 := by have := hp.2.1; omega
      have p3 : (z != 34) = true := by have := hp.2.2.1; simp; omega
      have p4 : (z != 92) = true := by have := hp.2.2.2; simp; omega
      have p5 : ¬ z = 34 := by have := hp.2.2.1; omega
      have p6 : ¬ z = 92 := by have := hp.2.2.2; omega
      clear hc hz hp
      go_wp2
      go_roundw
      case rel => exact ⟨k + 1, by omega, rfl, by go_num, trivial⟩
      case measure => simp [RowKit.intOf]; omega
    · obtain rfl : k = n := by omega
      rcases Nat.eq_zero_or_pos k with h0 | h0
      · exact absurd hfit (by omega)
      · have hz0 : (0 : Int) < (k : Int) := by omega
        have hss : ∀ w, (Instr.slice 9 (.string s) (some (.int .i64 0)) none none).run Tryz.prog w = .ok (.string s) w := fun w => by
          rw [run_slice_string_l w 9 s Tryz.underlying9 .i64 0 (by omega) (by omega)]
          simp
        go_wp2_with fail
        
        go_region_with (go_at_call 285; refine (HWS.out _ HL1.out _ ?_).mono ?_; (first | exact Below.refl _ _ | exact (Below.refl _ _).drew | exact (Below.refl _ _).drew.drew); rintro e w2 ⟨rfl, hL2, ht2⟩)
        all_goals (have hw2 := HC.out _ _ ht2 (Nat.lt_of_lt_of_le HLT.out HT1.out.size) hw1)
        all_goals go_wp2_with (go_at_call 284; refine (HWB.out _ hL2).mono ?_; rintro e w3 ⟨rfl, hL3, ht3⟩)
        all_goals exact ⟨rfl, rfl, hL3, HT1.out.trans (ht2.trans ht3)⟩

set_option maxHeartbeats 4000000 in
set_option maxRecDepth 100000 in
theorem encStr_over (lw bb eb n : Nat) (hne : lw ≠ bb) (hn1 : eb ≠ lw) (hn2 : eb ≠ bb) (s : ByteArray) (hn : s.size = n) (hsz : n ≤ 1048576) (hfit : 31 ≤ n) (hpl : ∀ k, k < n → Plain (s.data.toList.getD k 0)) (W : World) (h : Lw lw bb W []) (hE : Enc 45 eb (lwI lw) W []) :
    Calls Tryz.prog 36 #[.pointer (some ⟨eb, 0, none⟩), .string s] W fun e w' => e = .panicked [fullPanic] ∧ Lw lw bb w' (34 :: s.data.toList.take 31) ∧ Two lw bb W w' := by
  have hl : s.data.toList.length = n := hn
  have hlt := hE.lt
  have hw0 : W.cell? ⟨eb, 0, none⟩ = some (.iface 115 (.pointer (some ⟨lw, 0, none⟩))) := hE.writer
  have HW1 := Lib.hid (lw_writeByte lw bb hne [] 34 34 rfl (by simp) W h)
  have HWS : Hid (∀ w1, Lw lw bb w1 [34] → ∀ w, Below w1.heap.size w1 w → Calls Tryz.prog 285 #[.pointer (some ⟨lw, 0, none⟩), .string s] w fun e w' => e = .panicked [fullPanic] ∧ Lw lw bb w' (34 :: s.data.toList.take 31) ∧ Two lw bb w1 w') := Lib.hid fun w1 h1 w hb =>
    (lw_writeString_full lw bb hne [34] s (s.data.toList.take 31) rfl (by simp) (by rw [List.length_take, hl]; simp; omega) w (h1.later hb)).mono fun e w' ⟨h1, h2, h3⟩ => ⟨h1, h2, (Two.of_below hb).trans h3⟩
  have HPL := Lib.hid hpl
  have HC : Hid (∀ w1 w, Two lw bb w1 w → eb < w1.heap.size → w1.cell? ⟨eb, 0, none⟩ = some (.iface 115 (.pointer (some ⟨lw, 0, none⟩))) → w.cell? ⟨eb, 0, none⟩ = some (.iface 115 (.pointer (some ⟨lw, 0, none⟩)))) :=
    Lib.hid fun w1 w ht hl hc => (World.cell?_of_block (w := w1) (ht.block eb hl hn1 hn2)).trans hc
  have HLT := Lib.hid hlt
  clear h hE hpl hl hlt
  go_enter Tryz.func36, Tryz.ntmps36
  go_wp2_with (go_at_call 284; refine HW1.out.mono ?_; rintro e w1 ⟨rfl, hL1, ht1⟩; have hw1 := HC.out _ _ ht1 HLT.out hw0; have HL1 := Lib.hid hL1; have HT1 := Lib.hid ht1; clear hL1 ht1)
  go_loopw [4, 5] (fun u i wr => ∃ k : Nat, k ≤ n ∧ u = .int .i64 0 ∧ i = .int .i64 k ∧ wr = w1) (fun _ i _ => n - (RowKit.intOf i).toNat)
  case atStart => exact ⟨0, Nat.zero_le _, rfl, rfl, rfl⟩
  case round =>
    obtain ⟨k, hk, rfl, rfl, rfl⟩ := hrel
    by_cases hlt : k < n
    · have hi0 := fun w => Str.idx_str (P := Tryz.prog) 9 Tryz.underlying9 s .i64 (k : Int) k rfl (by omega) w
      have hp := HPL.out k hlt
      obtain ⟨c, hc⟩ : ∃ c, s.data.toList.getD k 0 = c := ⟨_, rfl⟩
      rw [hc] at hi0 hp
      obtain ⟨z, hz⟩ : ∃ z : Int, (c.toNat : Int) = z := ⟨_, rfl⟩
      rw [hz] at hi0
      have p0 : z < 128 := by have := hp.2.1; omega
      have p1 : 32 ≤ z := by have := hp.1; omega
      have p2 : z ≤ 126 := by have := hp.2.1; omega
      have p3 : (z != 34) = true := by have := hp.2.2.1; simp; omega
      have p4 : (z != 92) = true := by have := hp.2.2.2; simp; omega
      have p5 : ¬ z = 34 := by have := hp.2.2.1; omega
      have p6 : ¬ z = 92 := by have := hp.2.2.2; omega
      clear hc hz hp
      go_wp2
      go_roundw
      case rel => exact ⟨k + 1, by omega, rfl, by go_num, trivial⟩
      case measure => simp [RowKit.intOf]; omega
    · obtain rfl : k = n := by omega
      rcases Nat.eq_zero_or_pos k with h0 | h0
      · exact absurd hfit (by omega)
      · have hz0 : (0 : Int) < (k : Int) := by omega
        have hss : ∀ w, (Instr.slice 9 (.string s) (some (.int .i64 0)) none none).run Tryz.prog w = .ok (.string s) w := fun w => by
          rw [run_slice_string_l w 9 s Tryz.underlying9 .i64 0 (by omega) (by omega)]
          simp
        go_wp2_with fail
        go_still_tail 9, (by kernel_rfl)
        go_wp2_with (go_at_call 285; refine (HWS.out _ HL1.out _ ?_).mono ?_; (first | exact Below.refl _ _ | exact (Below.refl _ _).drew | exact (Below.refl _ _).drew.drew); rintro e w2 ⟨rfl, hL2, ht2⟩; exact ⟨rfl, rfl, hL2, HT1.out.trans ht2⟩)
        

end Go.Proofs.YtgaeeklmifjigaaGreatFmt
