/- Contracts: (*strings.Builder).WriteByte; encodeArray over ints. -/
import Derived.Test.YtngdcnljbfkneaaGreatFmtEncB
import Derived.Test.YtngdcnljbfkneaaGreatFmtEsc
import Derived.Test.YtngdcnljbfkneaaGreatFmtCells
import Derived.Deep.LoopGhost
namespace Go.Proofs.YtngdcnljbfkneaaGreatFmt
open Go.RowKit Go.Deep Go.Lib Go.Sort

set_option maxHeartbeats 2000000 in
set_option maxRecDepth 100000 in
theorem bWriteByte_any (B b : Nat) (bs : List Value) (c : UInt8) (x : Int) (hx : (c.toNat : Int) = x) (W : World) (h : IsBuilderF 39 5 B b bs W) (hlen : bs.length + 1 ≤ 140737488355328) (hBw : B ≤ W.heap.size) :
    Calls Tryz.prog 256 #[.pointer (some ⟨b, 0, none⟩), .int .u8 x] W
      fun e w' => e = .returned .nilIface ∧ BuilderAtF 39 5 B b (.pointer (some ⟨b, 0, none⟩)) (bs ++ Lib.byteCells [c]) w' ∧ Below B W w' ∧ OthersKept 5 (some b) W w' := by
  subst hx
  obtain ⟨i0, hi, hz0, hz1, hz2⟩ := info_parts info_u8e
  have hcc := copyCheck_k B b bs W h
  have HLEN := Lib.hid hlen
  clear h hlen
  go_enter Tryz.func256, Tryz.ntmps256
  go_wp2_with (go_at_call 258; refine hcc.mono ?_)
  rintro e w1 ⟨rfl, h1, hb1, hk1⟩
  obtain ⟨hB, v, hbk, hown, hnb⟩ := h1
  have HB1 := Lib.hid hb1
  have HK1 := Lib.hid hk1
  have c0 : w1.cell? ⟨b, 0, none⟩ = some (.pointer (some ⟨b, 0, none⟩)) := by rw [Lib.cell_of_heap hbk]; rfl
  have c1 : w1.cell? ⟨b, 1, none⟩ = some v := by rw [Lib.cell_of_heap hbk]; rfl
  have hlt : b < w1.heap.size := (Array.getElem?_eq_some_iff.1 hbk).1
  have HBK := Lib.hid hbk
  have HOWN := Lib.hid hown
  clear hb1 hk1 hbk hown hcc
  go_wp2_with (at_builtin; refine wpList_append_ownF _ rfl _ _ 33 rfl B 5 i0 (.int .u8 0) 1 1 Tryz.underlying33 hi hz0 hz1 hz2 rfl (by decide) _ _ _ rfl (HOWN.out.alloc _) ⟨w1.heap.size, 0, none⟩ 1 1 [.int .u8 (c.toNat : Int)] rfl rfl (cell_one_new _ _ _) (by intro u hu; simp at hu; subst hu; rfl) (by have := HLEN.out; unfold maxLen; omega) (by have := HLEN.out; omega) (by have := HB1.out.size; rw [Go.Deep.nblk_alloc]; omega) ?_)
  intro v' w2 hown' hgrow _
  have hb2 : w2.heap[b]? = some (.cells #[.pointer (some ⟨b, 0, none⟩), v] 39 (0, 0)) := by
    rw [hgrow.block b (by rw [Go.Deep.nblk_alloc]; omega) (fun e => hnb e.symm)]
    exact (Below.heap_alloc _ _ _ hlt).trans HBK.out
  have d0 : w2.cell? ⟨b, 0, none⟩ = some (.pointer (some ⟨b, 0, none⟩)) := by rw [Lib.cell_of_heap hb2]; rfl
  have d1 : w2.cell? ⟨b, 1, none⟩ = some v := by rw [Lib.cell_of_heap hb2]; rfl
  have f1 : w2.frozen? ⟨b, 1, none⟩ = false := Lib.frozen_of_heap hb2 1
  obtain ⟨ao, n', cap, rfl⟩ : ∃ ao n' cap, v' = .slice ao n' cap := by
    rcases hown'.2 with ⟨hv, _⟩ | ⟨g, cap, cur, fz, hv, _⟩
    · exact ⟨_, _, _, hv⟩
    · exact ⟨_, _, _, hv⟩
  have HB2 := Lib.hid hb2
  have HO2 := Lib.hid hown'
  have HG2 := Lib.hid hgrow
  clear hb2 hown' hgrow
  go_wp2
  go_returns
  refine ⟨rfl, ?_, ?_, ((HK1.out.alloc _).grown HG2.out (ownsRowF_kind (HOWN.out.alloc _))).setCell ⟨b, 1, none⟩ rfl _⟩
  · exact BuilderAtF.put (T := 39) (e := 5) hB HB2.out (bs' := bs ++ Lib.byteCells [c]) (by rw [List.length_append, Own.byteCells_len]; exact HO2.out) (by decide)
  · exact ((HB1.out.alloc (by have := HB1.out.size; omega) _).grown HG2.out (by have := HB1.out.size; rw [Go.Deep.nblk_alloc]; omega) (fun k hk => (HOWN.out.lt k hk).1)).setCell (p := ⟨b, 1, none⟩) hB _

/-- Between two writes: what the builder holds, the encoder at rest. -/
def EncAt (B b eb : Nat) (l : List UInt8) (W w : World) : Prop :=
  IsBuilderF 39 5 B b (Lib.byteCells l) w ∧ Enc 44 eb (.iface 37 (.pointer (some ⟨b, 0, none⟩))) w [] ∧ Keep B W w
theorem encAt_byte {B b eb : Nat} {l : List UInt8} {W w : World} (h : EncAt B b eb l W w) (c : UInt8) (x : Int) (hx : (c.toNat : Int) = x) (hlen : l.length + 1 ≤ 140737488355328) (hB : B ≤ W.heap.size) (hne : eb ≠ b) :
    Calls Tryz.prog 256 #[.pointer (some ⟨b, 0, none⟩), .int .u8 x] w fun e w' => e = .returned .nilIface ∧ EncAt B b eb (l ++ [c]) W w' := by
  refine (bWriteByte_any B b _ c x hx w h.1 (by rw [Own.byteCells_len]; exact hlen) (Nat.le_trans hB h.2.2.size)).mono fun e w' ⟨he, h1, h2, h3⟩ => ⟨he, ?_, ?_, h.2.2.trans ⟨h2, kv_others h.1 h3⟩⟩
  · rw [Own.byteCells_append]; exact Or.inr h1
  · exact h.2.1.others h3 (by decide) (fun c => hne (by injection c))
theorem encAt_int {B b eb : Nat} {l : List UInt8} {W w : World} (h : EncAt B b eb l W w) (n : Int) (h0 : -9223372036854775808 ≤ n) (h1 : n ≤ 9223372036854775807) (hlen : l.length ≤ 140737488355000) (hB : B ≤ W.heap.size) (hBe : B ≤ eb) (hne : eb ≠ b)
    (htab : Lib.TabBelow Tryz.prog B W "internal/strconv.uint64pow10" .u64 Lib.pow10Tab) :
    Calls Tryz.prog 23 #[.pointer (some ⟨eb, 0, none⟩), .iface 3 (.int .i64 n)] w fun e w' => e = .returned (.tuple #[]) ∧ EncAt B b eb (l ++ itoa n) W w' := by
  refine (encode_int B b eb _ n h0 h1 w h.1 h.2.1 (by rw [Own.byteCells_len]; exact hlen) (Nat.le_trans hB h.2.2.size) hBe hne (htab.on h.2.2.toBelow)).mono fun e w' ⟨he, h1, h2, h3⟩ => ⟨he, ?_, h2, h.2.2.trans h3⟩
  rw [Own.byteCells_append]
  exact Or.inr h1

end Go.Proofs.YtngdcnljbfkneaaGreatFmt
