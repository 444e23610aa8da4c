/- Contracts: utf8.DecodeLastRune behind a byte below 128; Preview of a string whose text is cut. -/
import Derived.Test.YtgaeeklmifjigaaGreatFmtPrevA
import Derived.Test.YtgaeeklmifjigaaGreatFmtJlmP
import Derived.Test.YtgaeeklmifjigaaGreatFmtOwn
import Derived.Deep.LoopGhost
namespace Go.Proofs.YtgaeeklmifjigaaGreatFmt
open Go.RowKit Go.Deep Go.Lib Go.Sort

set_option maxHeartbeats 2000000 in
set_option maxRecDepth 100000 in
theorem dlr_any (g j : Nat) (z : Int) (hz0 : 0 ≤ z) (hz : z < 128) (hj : j < 32) (W : World) (hc : W.cell? ⟨g, j, none⟩ = some (.int .u8 z)) :
    Calls Tryz.prog 50 #[.slice (some ⟨g, 0, none⟩) (j + 1) 32] W fun e w' => e = .returned (.tuple #[.int .i32 z, .int .i64 1]) ∧ w' = W := by
  have hcv : ∀ w, (convert 5 21 (.int .u8 z)).run Tryz.prog w = .ok (.int .i32 z) w := fun w => by
    rw [run_convert_int w 5 21 .u8 z (by kernel_rfl) (by kernel_rfl)]
    have hk : Tryz.prog.intKind 21 = .i32 := by kernel_rfl
    have hwr : IntKind.i32.wrap z = z := by
      simp [IntKind.wrap, IntKind.bits, IntKind.signed]
      omega
    rw [hk, hwr]
  have hj' : ¬ ((j : Int) + 1 = 0) := by omega
  go_enter Tryz.func50, Tryz.ntmps50
  go_wp2
  go_ret2
  exact ⟨rfl, rfl⟩

theorem buf_take {U : TypeId} {W w : World} {g B n : Nat} {cur : Array Value} {l : List UInt8} (hb : Below B W w) (hB : B ≤ g) (hg : w.heap[g]? = some (.cells cur U (0, 0))) (hsz : cur.size = 32)
    (hj : ∀ (j : Nat) (b : UInt8), l[j]? = some b → cur[j]? = some (.int .u8 (b.toNat : Int))) (hn : n ≤ l.length) (hn2 : n ≤ 32) : Own.Buf U B W w (.slice (some ⟨g, 0, none⟩) n 32) (l.take n) := by
  have hlt : (l.take n).length = n := by rw [List.length_take]; omega
  have hgl : g < w.heap.size := (Array.getElem?_eq_some_iff.1 hg).1
  refine ⟨⟨by rw [Own.byteCells_len, Nat.mul_one], .inr ⟨g, 32, cur, by rw [hlt], hB, hg, by rw [hlt]; exact hn2, by decide, by rw [hsz], ?_⟩⟩, hb, by omega⟩
  rw [hlt, Nat.mul_one]
  apply List.ext_getElem?
  intro j
  by_cases c : j < n
  · rw [List.getElem?_take_of_lt c, Array.getElem?_toList, hj j l[j] (List.getElem?_eq_getElem (by omega))]
    simp [byteCells, List.getElem?_take_of_lt c, List.getElem?_eq_getElem (show j < l.length by omega)]
  · rw [List.getElem?_eq_none (by rw [List.length_take]; omega), List.getElem?_eq_none (by rw [Own.byteCells_len, hlt]; omega)]

def sliceLen : Value → Nat
  | .slice _ n _ => n
  | _ => 0
set_option maxHeartbeats 4000000 in
set_option maxRecDepth 100000 in
/-- Preview of a string that takes more than 30 bytes: its first 25, then the dots and the quote. -/
theorem preview_long (v : Value) (l : List UInt8) (L : Nat) (hl : l.length = L) (hL1 : 31 ≤ L) (hL2 : L ≤ 32) (hasc : ∀ j, j < L → (l.getD j 0).toNat < 128) (W : World)
    (HJ : Hid (Calls Tryz.prog 49 #[.iface 9 v, .int .i64 32] W fun e w' =>
      e = .returned (.slice (some ⟨W.heap.size + 1, 0, none⟩) L 32) ∧ Below W.heap.size W w' ∧
      ∃ cur : Array Value, w'.heap[W.heap.size + 1]? = some (.cells cur 5 (0, 0)) ∧ cur.size = 32 ∧ ∀ (j : Nat) (b : UInt8), l[j]? = some b → cur[j]? = some (.int .u8 (b.toNat : Int)))) :
    Calls Tryz.prog 40 #[.iface 9 v] W fun e w' => e = .returned (.string ⟨(l.take 25 ++ [32, 46, 46, 46, 34]).toArray⟩) ∧ Below W.heap.size W w' := by
  have hgt : (30 : Int) < (L : Int) := by omega
  have HASC := Lib.hid hasc
  have HL := Lib.hid hl
  have HL1 := Lib.hid hL1
  have HL2 := Lib.hid hL2
  clear hasc hl hL1 hL2
  go_enter Tryz.func40, Tryz.ntmps40
  go_wp2_with (go_at_call 49; refine HJ.out.mono ?_; rintro e w2 ⟨rfl, hb, cur, hcur, hsz, hj⟩; have HB := Lib.hid hb; have HCUR := Lib.hid hcur; have HSZ := Lib.hid hsz; have HJJ := Lib.hid hj; clear hb hcur hsz hj)
  go_loopw [3] (fun u wr => ∃ m : Nat, 25 ≤ m ∧ m ≤ L ∧ u = .slice (some ⟨W.heap.size + 1, 0, none⟩) m 32 ∧ wr = w2) (fun u _ => sliceLen u)
  case atStart => exact ⟨L, by have := HL1.out; omega, Nat.le_refl _, rfl, rfl⟩
  case round =>
    obtain ⟨m, hm1, hm2, rfl, rfl⟩ := hrel
    by_cases c25 : 25 < m
    · obtain ⟨j, rfl⟩ : ∃ j, m = j + 1 := ⟨m - 1, by omega⟩
      have hjl : j < L := by omega
      have hcj : wr.cell? ⟨W.heap.size + 1, j, none⟩ = some (.int .u8 ((l.getD j 0).toNat : Int)) := by
        rw [Lib.cell_of_heap HCUR.out]
        refine HJJ.out j _ ?_
        rw [List.getD_eq_getElem?_getD, List.getElem?_eq_getElem (by rw [HL.out]; exact hjl)]
        rfl
      have HD := Lib.hid (dlr_any (W.heap.size + 1) j _ (by omega) (by have := HASC.out j hjl; omega) (by have := HL2.out; omega) wr hcj)
      obtain ⟨z, hz⟩ : ∃ z : Int, ((l.getD j 0).toNat : Int) = z := ⟨_, rfl⟩
      rw [hz] at HD
      clear hcj hz
      have hjb : j < 32 := by have := HL2.out; omega
      have h25 : (25 : Int) < (j : Int) + 1 := by omega
      have hsl : ∀ w, (Instr.slice 25 (.slice (some ⟨W.heap.size + 1, 0, none⟩) (j + 1) 32) none (some (.int .i64 (j : Int))) none).run Tryz.prog w = .ok (.slice (some ⟨W.heap.size + 1, 0, none⟩) j 32) w := fun w => by
        rw [run_slice_h w 25 (some ⟨W.heap.size + 1, 0, none⟩) (j + 1) 32 (by kernel_rfl) .i64 (j : Int) (by omega) (by have := HL2.out; omega)]
        go_simp
      go_wp2_with (go_at_call 50; refine HD.out.mono ?_; rintro e w3 ⟨rfl, rfl⟩)
      go_roundw
      case rel => exact ⟨j, by omega, by omega, rfl, trivial⟩
      case measure => simp [sliceLen]
    · obtain rfl : m = 25 := by omega
      have hbuf := Lib.hid (buf_take (n := 25) HB.out (Nat.le_succ _) HCUR.out HSZ.out HJJ.out (by rw [HL.out]; exact hm2) (by omega))
      go_wp2_with (at_builtin; refine Own.wpList_buf_str rfl _ _ 25 9 rfl 5 Tryz.underlying25 Tryz.underlying9 info_u8j W.heap.size W _ _ rfl hbuf.out _ [32, 46, 46, 46, 34] rfl rfl (by rw [List.length_take]; simp; omega) ?_)
      intro v2 w3 hb3
      have hcv := Own.own_text (P := Tryz.prog) 25 9 5 Tryz.underlying25 Tryz.underlying5 Tryz.underlying9 hb3.row
      go_wp2
      go_ret
      exact ⟨rfl, hb3.below⟩
end Go.Proofs.YtgaeeklmifjigaaGreatFmt
