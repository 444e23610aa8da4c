/- Contracts: (*strings.Builder).WriteByte; encodeArray over ints. -/
import Derived.Test.YtcneanhebfdceaaGreatFmtEncB
import Derived.Test.YtcneanhebfdceaaGreatFmtEsc
import Derived.Test.YtcneanhebfdceaaGreatFmtCells
import Derived.Deep.LoopGhost
namespace Go.Proofs.YtcneanhebfdceaaGreatFmt
open Go.RowKit Go.Deep Go.Lib Go.Sort

set_option maxHeartbeats 2000000 in
set_option maxRecDepth 100000 in
theorem bWriteByte_any (B b : Nat) (bs : List Value) (c : UInt8) (x : Int) (hx : (c.toNat : Int) = x) (W : World) (h : IsBuilderF 41 5 B b bs W) (hlen : bs.length + 1 ≤ 140737488355328) (hBw : B ≤ W.heap.size) :
    Calls Tryz.prog 259 #[.pointer (some ⟨b, 0, none⟩), .int .u8 x] W
      fun e w' => e = .returned .nilIface ∧ BuilderAtF 41 5 B b (.pointer (some ⟨b, 0, none⟩)) (bs ++ Lib.byteCells [c]) w' ∧ Below B W w' ∧ OthersKept 5 (some b) W w' := by
  subst hx
  obtain ⟨i0, hi, hz0, hz1, hz2⟩ := info_parts info_u8e
  have hcc := copyCheck_k B b bs W h
  have HLEN := Lib.hid hlen
  clear h hlen
  go_enter Tryz.func259, Tryz.ntmps259
  go_wp2_with (go_at_call 261; refine hcc.mono ?_)
  rintro e w1 ⟨rfl, h1, hb1, hk1⟩
  obtain ⟨hB, v, hbk, hown, hnb⟩ := h1
  have HB1 := Lib.hid hb1
  have HK1 := Lib.hid hk1
  have c0 : w1.cell? ⟨b, 0, none⟩ = some (.pointer (some ⟨b, 0, none⟩)) := by rw [Lib.cell_of_heap hbk]; rfl
  have c1 : w1.cell? ⟨b, 1, none⟩ = some v := by rw [Lib.cell_of_heap hbk]; rfl
  have hlt : b < w1.heap.size := (Array.getElem?_eq_some_iff.1 hbk).1
  have HBK := Lib.hid hbk
  have HOWN := Lib.hid hown
  clear hb1 hk1 hbk hown hcc
  go_wp2_with (at_builtin; refine wpList_append_ownF _ rfl _ _ 33 rfl B 5 i0 (.int .u8 0) 1 1 Tryz.underlying33 hi hz0 hz1 hz2 rfl (by decide) _ _ _ rfl (HOWN.out.alloc _) ⟨w1.heap.size, 0, none⟩ 1 1 [.int .u8 (c.toNat : Int)] rfl rfl (cell_one_new _ _ _) (by intro u hu; simp at hu; subst hu; rfl) (by have := HLEN.out; unfold maxLen; omega) (by have := HLEN.out; omega) (by have := HB1.out.size; rw [Go.Deep.nblk_alloc]; omega) ?_)
  intro v' w2 hown' hgrow _
  have hb2 : w2.heap[b]? = some (.cells #[.pointer (some ⟨b, 0, none⟩), v] 41 (0, 0)) := by
    rw [hgrow.block b (by rw [Go.Deep.nblk_alloc]; omega) (fun e => hnb e.symm)]
    exact (Below.heap_alloc _ _ _ hlt).trans HBK.out
  have d0 : w2.cell? ⟨b, 0, none⟩ = some (.pointer (some ⟨b, 0, none⟩)) := by rw [Lib.cell_of_heap hb2]; rfl
  have d1 : w2.cell? ⟨b, 1, none⟩ = some v := by rw [Lib.cell_of_heap hb2]; rfl
  have f1 : w2.frozen? ⟨b, 1, none⟩ = false := Lib.frozen_of_heap hb2 1
  obtain ⟨ao, n', cap, rfl⟩ : ∃ ao n' cap, v' = .slice ao n' cap := by
    rcases hown'.2 with ⟨hv, _⟩ | ⟨g, cap, cur, fz, hv, _⟩
    · exact ⟨_, _, _, hv⟩
    · exact ⟨_, _, _, hv⟩
  have HB2 := Lib.hid hb2
  have HO2 := Lib.hid hown'
  have HG2 := Lib.hid hgrow
  clear hb2 hown' hgrow
  go_wp2
  go_returns
  refine ⟨rfl, ?_, ?_, ((HK1.out.alloc _).grown HG2.out (ownsRowF_kind (HOWN.out.alloc _))).setCell ⟨b, 1, none⟩ rfl _⟩
  · exact BuilderAtF.put (T := 41) (e := 5) hB HB2.out (bs' := bs ++ Lib.byteCells [c]) (by rw [List.length_append, Own.byteCells_len]; exact HO2.out) (by decide)
  · exact ((HB1.out.alloc (by have := HB1.out.size; omega) _).grown HG2.out (by have := HB1.out.size; rw [Go.Deep.nblk_alloc]; omega) (fun k hk => (HOWN.out.lt k hk).1)).setCell (p := ⟨b, 1, none⟩) hB _

/-- Between two writes: what the builder holds, the encoder at rest. -/
def EncAt (B b eb : Nat) (l : List UInt8) (W w : World) : Prop :=
  IsBuilderF 41 5 B b (Lib.byteCells l) w ∧ Enc 46 eb (.iface 39 (.pointer (some ⟨b, 0, none⟩))) w [] ∧ Below B W w
theorem encAt_byte {B b eb : Nat} {l : List UInt8} {W w : World} (h : EncAt B b eb l W w) (c : UInt8) (x : Int) (hx : (c.toNat : Int) = x) (hlen : l.length + 1 ≤ 140737488355328) (hB : B ≤ W.heap.size) (hne : eb ≠ b) :
    Calls Tryz.prog 259 #[.pointer (some ⟨b, 0, none⟩), .int .u8 x] w fun e w' => e = .returned .nilIface ∧ EncAt B b eb (l ++ [c]) W w' := by
  refine (bWriteByte_any B b _ c x hx w h.1 (by rw [Own.byteCells_len]; exact hlen) (Nat.le_trans hB h.2.2.size)).mono fun e w' ⟨he, h1, h2, h3⟩ => ⟨he, ?_, ?_, h.2.2.trans h2⟩
  · rw [Own.byteCells_append]; exact Or.inr h1
  · exact h.2.1.others h3 (by decide) (fun c => hne (by injection c))
theorem encAt_int {B b eb : Nat} {l : List UInt8} {W w : World} (h : EncAt B b eb l W w) (n : Int) (h0 : -9223372036854775808 ≤ n) (h1 : n ≤ 9223372036854775807) (hlen : l.length ≤ 140737488355000) (hB : B ≤ W.heap.size) (hBe : B ≤ eb) (hne : eb ≠ b)
    (htab : Lib.TabBelow Tryz.prog B W "internal/strconv.uint64pow10" .u64 Lib.pow10Tab) :
    Calls Tryz.prog 27 #[.pointer (some ⟨eb, 0, none⟩), .iface 3 (.int .i64 n)] w fun e w' => e = .returned (.tuple #[]) ∧ EncAt B b eb (l ++ itoa n) W w' := by
  refine (encode_int B b eb _ n h0 h1 w h.1 h.2.1 (by rw [Own.byteCells_len]; exact hlen) (Nat.le_trans hB h.2.2.size) hBe hne (htab.on h.2.2)).mono fun e w' ⟨he, h1, h2, h3⟩ => ⟨he, ?_, h2, h.2.2.trans h3⟩
  rw [Own.byteCells_append]
  exact Or.inr h1

set_option maxHeartbeats 8000000 in
set_option maxRecDepth 100000 in
theorem encodeArray_int (zs : List Int) (n : Nat) (hn : zs.length = n) (hz : ∀ k, -9223372036854775808 ≤ zs.getD k 0 ∧ zs.getD k 0 ≤ 9223372036854775807) (hnb : n ≤ 131072) (v : Value) (B b eb : Nat) (W : World) (hB : B ≤ W.heap.size) (hBe : B ≤ eb) (hne : eb ≠ b)
    (htab : Lib.TabBelow Tryz.prog B W "internal/strconv.uint64pow10" .u64 Lib.pow10Tab) (h : EncAt B b eb [] W W)
    (hv : ∃ a cap, v = .slice a n cap ∧ (0 < n → ∃ vb off, a = some ⟨vb, off, none⟩ ∧ vb < B ∧ ∀ i, i < n → W.cell? ⟨vb, off + i, none⟩ = some (.iface 3 (.int .i64 (zs.getD i 0)))))
    (hgl : ∀ k, k ≤ n → (Esc.glue (zs.map itoa) [44] k).length ≤ 22 * k) :
    Calls Tryz.prog 23 #[.pointer (some ⟨eb, 0, none⟩), v] W
      fun e w' => e = .returned (.tuple #[]) ∧ EncAt B b eb (91 :: (Esc.glue (zs.map itoa) [44] n ++ [93])) W w' := by
  obtain ⟨a, cap, rfl, hcc⟩ := hv
  have HC := Lib.hid hcc
  have HZ := Lib.hid hz
  have HT := Lib.hid htab
  have HG := Lib.hid hgl
  have H0 := Lib.hid (encAt_byte h 91 91 rfl (by decide) hB hne)
  have hw0 := h.2.1.writer
  clear hcc hz htab hgl h
  go_enter Tryz.func23, Tryz.ntmps23
  go_wp2_with (go_at_call 259; refine H0.out.mono ?_; rintro e w1 ⟨rfl, h1⟩)
  have HS := Lib.hid h1
  clear h1 hw0
  go_loopw [13] (fun i wr => ∃ k : Nat, k ≤ n ∧ i = .int .i64 k ∧ Hid (EncAt B b eb (91 :: Esc.glue (zs.map itoa) [44] k) W wr)) (fun i _ => n - (RowKit.intOf i).toNat)
  case atStart => exact ⟨0, Nat.zero_le _, rfl, HS⟩
  case round =>
    obtain ⟨k, hk, rfl, HR⟩ := hrel
    have hw1 := HR.out.2.1.writer
    have hgk := HG.out k hk
    by_cases hlt : k < n
    · obtain ⟨vb, off, rfl, hvb, hcell⟩ := HC.out (by omega)
      have hcx : wr.cell? ⟨vb, off + k, none⟩ = some (.iface 3 (.int .i64 (zs.getD k 0))) := (HR.out.2.2.cell (p := ⟨vb, off + k, none⟩) hvb).trans (hcell k hlt)
      have hgs : Esc.glue (zs.map itoa) [44] (k + 1) = Esc.glue (zs.map itoa) [44] k ++ ((if k = 0 then [] else [44]) ++ itoa (zs.getD k 0)) := by
        show _ ++ ((if k = 0 then [] else [44]) ++ (zs.map itoa).getD k []) = _
        rw [show (zs.map itoa).getD k [] = itoa (zs.getD k 0) from by
          rw [List.getD_eq_getElem?_getD, List.getD_eq_getElem?_getD, List.getElem?_map, List.getElem?_eq_getElem (by omega)]; rfl]
      have hin := HZ.out k
      obtain ⟨z, hzk⟩ : ∃ z, zs.getD k 0 = z := ⟨_, rfl⟩
      rw [hzk] at hcx hgs hin
      obtain ⟨X, hX⟩ : ∃ X, 91 :: Esc.glue (zs.map itoa) [44] k = X := ⟨_, rfl⟩
      have hXl : X.length ≤ 22 * n + 1 := by rw [← hX, List.length_cons]; have : 22 * k ≤ 22 * n := Nat.mul_le_mul_left _ hk; omega
      rw [hX] at HR
      by_cases k0 : k = 0
      · have hXn : 91 :: Esc.glue (zs.map itoa) [44] (k + 1) = X ++ itoa z := by rw [hgs, if_pos k0, ← hX]; simp
        have HI := Lib.hid (encAt_int HR.out z hin.1 hin.2 (by omega) hB hBe hne HT.out)
        have HXN := Lib.hid hXn
        have hk0 : ¬ ((0 : Int) < (k : Int)) := by omega
        clear hcell hzk hX hgs hin hXn k0 hgk
        go_wp2_with (go_at_call 27; refine HI.out.mono ?_; rintro e w2 ⟨rfl, h2⟩)
        replace h2 := Lib.hid (show EncAt B b eb (91 :: Esc.glue (zs.map itoa) [44] (k + 1)) W w2 from by rw [HXN.out]; exact h2)
        go_roundw
        case rel => exact ⟨k + 1, by omega, by go_num, h2⟩
        case measure => simp [RowKit.intOf]; omega
      · have hXn : 91 :: Esc.glue (zs.map itoa) [44] (k + 1) = X ++ [44] ++ itoa z := by rw [hgs, if_neg k0, ← hX]; simp
        have HC44 := Lib.hid (encAt_byte HR.out 44 44 rfl (by omega) hB hne)
        have HI := Lib.hid (fun w (hw : EncAt B b eb (X ++ [44]) W w) => encAt_int hw z hin.1 hin.2 (by rw [List.length_append, List.length_singleton]; omega) hB hBe hne HT.out)
        have HXN := Lib.hid hXn
        have hk0 : (0 : Int) < (k : Int) := by omega
        clear hcell hzk hX hgs hin hXn k0 hgk
        go_wp2_with (first
          | (go_at_call 259; refine HC44.out.mono ?_; rintro e w2 ⟨rfl, h2⟩)
          | (go_at_call 27; refine (HI.out _ h2).mono ?_; rintro e w3 ⟨rfl, h3⟩))
        replace h3 := Lib.hid (show EncAt B b eb (91 :: Esc.glue (zs.map itoa) [44] (k + 1)) W w3 from by rw [HXN.out]; exact h3)
        go_roundw
        case rel => exact ⟨k + 1, by omega, by go_num, h3⟩
        case measure => simp [RowKit.intOf]; omega
    · obtain rfl : k = n := by omega
      have HE := Lib.hid (encAt_byte HR.out 93 93 rfl (by rw [List.length_cons]; omega) hB hne)
      go_wp2_with (go_at_call 259; refine HE.out.mono ?_; rintro e w2 ⟨rfl, h2⟩)
      go_returns
      exact ⟨rfl, h2⟩
end Go.Proofs.YtcneanhebfdceaaGreatFmt
