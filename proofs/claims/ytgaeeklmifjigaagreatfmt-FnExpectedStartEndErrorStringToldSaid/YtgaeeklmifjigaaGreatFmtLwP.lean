/- Contracts: the limited writer of the previews, one byte at a time, and where what is written fills it (it panics). -/
import Derived.Test.YtgaeeklmifjigaaGreatFmtLw
namespace Go.Proofs.YtgaeeklmifjigaaGreatFmt
open Go.RowKit Go.Deep Go.Lib Go.Sort

/-- What the full writer throws. -/
def fullPanic : PanicEntry := { v := .iface 292 (.agg #[]), recovered := false }

theorem Lw.put1 {lw bb : Nat} {w : World} {l : List UInt8} (hne : lw ≠ bb) (c : UInt8) (z : Int) (hz : (c.toNat : Int) = z) {cur : Array Value} (ha : w.heap[lw]? = some (.cells #[Value.slice (some ⟨bb, 0, none⟩) 32 32, Value.int .i64 (l.length : Int)] 117 (0, 0)))
    (hb : w.heap[bb]? = some (.cells cur 5 (0, 0))) (h1 : cur.size = 32) (h3 : ∀ (j : Nat) (b : UInt8), l[j]? = some b → cur[j]? = some (.int .u8 (b.toNat : Int))) (hfit : l.length + 1 ≤ 32) (x : Int) (hx : x = (l.length : Int) + 1) :
    Lw lw bb ((w.setCell ⟨bb, l.length, none⟩ (.int .u8 z)).setCell ⟨lw, 1, none⟩ (.int .i64 x)) (l ++ [c]) ∧ Two lw bb w ((w.setCell ⟨bb, l.length, none⟩ (.int .u8 z)).setCell ⟨lw, 1, none⟩ (.int .i64 x)) := by
  subst hx hz
  refine ⟨⟨?_, cur.set! l.length (.int .u8 (c.toNat : Int)), ?_, ?_, fun j b hj => ?_⟩, rfl, rfl, rfl, ?_, fun k hk k1 k2 => ?_⟩
  · rw [Lib.heap_setCell_same (i := 1) ((Below.heap_setCell _ _ _ _ hne).trans ha) _]
    simp
  · rw [Below.heap_setCell _ _ _ _ (fun c => hne c.symm)]
    exact Lib.heap_setCell_same hb _
  · simpa using h1
  · by_cases cj : j < l.length
    · rw [List.getElem?_append_left cj] at hj
      rw [Array.set!_eq_setIfInBounds, Array.getElem?_setIfInBounds_ne (by omega)]
      exact h3 j b hj
    · rw [List.getElem?_append_right (by omega)] at hj
      have hj0 : j = l.length := by
        have := (List.getElem?_eq_some_iff.1 hj).1
        simp at this
        omega
      subst hj0
      simp at hj
      subst hj
      simp [h1, show l.length < 32 by omega]
  · simp only [Go.Deep.nblk_setCell]
    exact Nat.le_refl _
  · rw [Below.heap_setCell _ _ _ _ k1, Below.heap_setCell _ _ _ _ k2]
set_option maxHeartbeats 4000000 in
set_option maxRecDepth 100000 in
theorem lw_writeString_full (lw bb : Nat) (hne : lw ≠ bb) (l : List UInt8) (s : ByteArray) (m : List UInt8) (hm : s.data.toList.take (32 - l.length) = m) (hlt : l.length < 32) (hfit : l.length + m.length = 32) (W : World) (h : Lw lw bb W l) :
    Calls Tryz.prog 285 #[.pointer (some ⟨lw, 0, none⟩), .string s] W
      fun e w' => e = .panicked [fullPanic] ∧ Lw lw bb w' (l ++ m) ∧ Two lw bb W w' := by
  obtain ⟨ha, cur, hb, hcs, hcl⟩ := h
  have c0 : W.cell? ⟨lw, 0, none⟩ = some (.slice (some ⟨bb, 0, none⟩) 32 32) := by rw [Lib.cell_of_heap ha]; rfl
  have c1 : W.cell? ⟨lw, 1, none⟩ = some (.int .i64 l.length) := by rw [Lib.cell_of_heap ha]; rfl
  obtain ⟨C, hC⟩ : ∃ C, (cur.toList.take l.length ++ Lib.byteCells m ++ cur.toList.drop (l.length + m.length)).toArray = C := ⟨_, rfl⟩
  have hput := fun x hx => Lw.put hne m ha hb hcs hcl (by omega) x hx C hC
  have htk := hm
  have hcp : ∀ (w : World) (ty : TypeId), w.heap[bb]? = some (.cells cur 5 (0, 0)) → (Builtin.copy_ #[25, 9] ty #[.slice (some ⟨bb, l.length, none⟩) (32 - l.length) (32 - l.length), .string s]).run Tryz.prog w = .ok (goInt m.length) (w.setRow bb C) := fun w ty hw => by
    rw [run_copy_str (P := Tryz.prog) w 25 9 ty 5 bb l.length (32 - l.length) (32 - l.length) s m cur 5 Tryz.underlying25 info_u8s hw htk (by omega), hC]
  have hcp0 := fun ty => hcp W ty hb
  have hcp1 := fun ty => hcp W.drew ty hb
  have hd1 : (W.drew.setRow bb C).cell? ⟨lw, 1, none⟩ = some (.int .i64 l.length) := by rw [cell_setRow_other _ _ _ _ hne]; exact c1
  have hd0 : (W.drew.setRow bb C).cell? ⟨lw, 0, none⟩ = some (.slice (some ⟨bb, 0, none⟩) 32 32) := by rw [cell_setRow_other _ _ _ _ hne]; exact c0
  have hf1 : (W.drew.setRow bb C).frozen? ⟨lw, 1, none⟩ = false := Lib.frozen_of_heap ((setRow_other W.drew bb lw C hne).trans ha) 1
  obtain ⟨L, hL⟩ : ∃ L, l.length = L := ⟨_, rfl⟩
  obtain ⟨M, hM⟩ : ∃ M, m.length = M := ⟨_, rfl⟩
  rw [hL] at c1 hcp0 hcp1 hd1 hfit hlt
  rw [hM] at hcp0 hcp1 hfit
  have HP := Lib.hid hput
  have HL := Lib.hid hL
  have HM := Lib.hid hM
  have hne32 : ¬ (32 = L) := by omega
  have hfull : (L : Int) + (M : Int) = 32 := by omega
  have hsl : ∀ w, (Instr.slice 25 (.slice (some ⟨bb, 0, none⟩) 32 32) (some (.int .i64 (L : Int))) none none).run Tryz.prog w = .ok (.slice (some ⟨bb, L, none⟩) (32 - L) (32 - L)) w := fun w => by
    rw [run_slice_l w 25 (some ⟨bb, 0, none⟩) 32 32 (by kernel_rfl) .i64 (L : Int) (by omega) (by omega)]
    go_simp
  clear hput hcp hC hL hM ha hb hcs hcl hm htk
  go_enter Tryz.func285, Tryz.ntmps285
  go_wp2_with fail
  go_region
  go_wp2_with fail
  have he0 : ((W.drew.setRow bb C).setCell ⟨lw, 1, none⟩ (.int .i64 ((L : Int) + (M : Int)))).cell? ⟨lw, 0, none⟩ = some (.slice (some ⟨bb, 0, none⟩) 32 32) := by rw [World.cell?_setCell_other _ _ _ _ (by simp)]; exact hd0
  go_region
  go_wp2_with fail
  have hp := HP.out 32 (by rw [HL.out, HM.out]; exact hfull.symm)
  exact ⟨rfl, rfl, hp.1, ⟨hp.2.os, hp.2.tape, hp.2.output, hp.2.size, hp.2.block⟩⟩

set_option maxHeartbeats 4000000 in
set_option maxRecDepth 100000 in
theorem lw_writeByte (lw bb : Nat) (hne : lw ≠ bb) (l : List UInt8) (c : UInt8) (z : Int) (hz : (c.toNat : Int) = z) (hfit : l.length + 1 < 32) (W : World) (h : Lw lw bb W l) :
    Calls Tryz.prog 284 #[.pointer (some ⟨lw, 0, none⟩), .int .u8 z] W
      fun e w' => e = .returned .nilIface ∧ Lw lw bb w' (l ++ [c]) ∧ Two lw bb W w' := by
  obtain ⟨ha, cur, hb, hcs, hcl⟩ := h
  have c0 : W.cell? ⟨lw, 0, none⟩ = some (.slice (some ⟨bb, 0, none⟩) 32 32) := by rw [Lib.cell_of_heap ha]; rfl
  have c1 : W.cell? ⟨lw, 1, none⟩ = some (.int .i64 l.length) := by rw [Lib.cell_of_heap ha]; rfl
  have hput := Lw.put1 hne c z hz ha hb hcs hcl (by omega)
  obtain ⟨L, hL⟩ : ∃ L, l.length = L := ⟨_, rfl⟩
  have hbx : ∃ x, W.cell? ⟨bb, L, none⟩ = some x := by
    rw [Lib.cell_of_heap hb]
    exact ⟨cur[L], by simp [show L < cur.size by omega]⟩
  obtain ⟨x, hx⟩ := hbx
  have hfb : W.frozen? ⟨bb, L, none⟩ = false := Lib.frozen_of_heap hb L
  have hfw : W.frozen? ⟨lw, 1, none⟩ = false := Lib.frozen_of_heap ha 1
  rw [hL] at c1 hfit hput
  have HP := Lib.hid hput
  have hne32 : ¬ ((L : Int) + 1 = 32) := by omega
  have hL0 : (L : Int) < 32 := by omega
  have hL1 : ¬ (32 ≤ L) := by omega
  clear hput hL ha hb hcs hcl
  go_enter Tryz.func284, Tryz.ntmps284
  go_wp2_with fail
  go_region
  go_wp2_with fail
  have he0 : ((W.setCell ⟨bb, L, none⟩ (.int .u8 z)).setCell ⟨lw, 1, none⟩ (.int .i64 ((L : Int) + 1))).cell? ⟨lw, 0, none⟩ = some (.slice (some ⟨bb, 0, none⟩) 32 32) := by rw [World.cell?_setCell_other _ _ _ _ (by simp), World.cell?_setCell_other _ _ _ _ (fun h => hne (congrArg Addr.block h).symm)]; exact c0
  go_region
  go_wp2_with fail
  go_ret
  have hp := HP.out ((L : Int) + 1) rfl
  exact ⟨rfl, hp.1, ⟨hp.2.os, hp.2.tape, hp.2.output, hp.2.size, hp.2.block⟩⟩

set_option maxHeartbeats 4000000 in
set_option maxRecDepth 100000 in
theorem lw_writeByte_full (lw bb : Nat) (hne : lw ≠ bb) (l : List UInt8) (c : UInt8) (z : Int) (hz : (c.toNat : Int) = z) (hfit : l.length + 1 = 32) (W : World) (h : Lw lw bb W l) :
    Calls Tryz.prog 284 #[.pointer (some ⟨lw, 0, none⟩), .int .u8 z] W
      fun e w' => e = .panicked [fullPanic] ∧ Lw lw bb w' (l ++ [c]) ∧ Two lw bb W w' := by
  obtain ⟨ha, cur, hb, hcs, hcl⟩ := h
  have c0 : W.cell? ⟨lw, 0, none⟩ = some (.slice (some ⟨bb, 0, none⟩) 32 32) := by rw [Lib.cell_of_heap ha]; rfl
  have c1 : W.cell? ⟨lw, 1, none⟩ = some (.int .i64 l.length) := by rw [Lib.cell_of_heap ha]; rfl
  have hput := Lw.put1 hne c z hz ha hb hcs hcl (by omega)
  obtain ⟨L, hL⟩ : ∃ L, l.length = L := ⟨_, rfl⟩
  have hbx : ∃ x, W.cell? ⟨bb, L, none⟩ = some x := by
    rw [Lib.cell_of_heap hb]
    exact ⟨cur[L], by simp [show L < cur.size by omega]⟩
  obtain ⟨x, hx⟩ := hbx
  have hfb : W.frozen? ⟨bb, L, none⟩ = false := Lib.frozen_of_heap hb L
  have hfw : W.frozen? ⟨lw, 1, none⟩ = false := Lib.frozen_of_heap ha 1
  rw [hL] at c1 hfit hput
  have HP := Lib.hid hput
  have hfull : (L : Int) + 1 = 32 := by omega
  have hL0 : (L : Int) < 32 := by omega
  have hL1 : ¬ (32 ≤ L) := by omega
  clear hput hL ha hb hcs hcl
  go_enter Tryz.func284, Tryz.ntmps284
  go_wp2_with fail
  go_region
  go_wp2_with fail
  have he0 : ((W.setCell ⟨bb, L, none⟩ (.int .u8 z)).setCell ⟨lw, 1, none⟩ (.int .i64 32)).cell? ⟨lw, 0, none⟩ = some (.slice (some ⟨bb, 0, none⟩) 32 32) := by rw [World.cell?_setCell_other _ _ _ _ (by simp), World.cell?_setCell_other _ _ _ _ (fun h => hne (congrArg Addr.block h).symm)]; exact c0
  go_region
  go_wp2_with fail
  have hp := HP.out 32 hfull.symm
  exact ⟨rfl, rfl, hp.1, ⟨hp.2.os, hp.2.tape, hp.2.output, hp.2.size, hp.2.block⟩⟩

end Go.Proofs.YtgaeeklmifjigaaGreatFmt
