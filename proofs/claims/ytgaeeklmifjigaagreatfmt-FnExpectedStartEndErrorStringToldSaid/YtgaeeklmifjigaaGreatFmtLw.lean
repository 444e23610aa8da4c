/- Contracts: the limited writer of the previews, where what is written fits. -/
import Derived.Test.YtgaeeklmifjigaaGreatFmtEncA
import Derived.Laws.CopyRow
import Derived.Deep.RegionWith
namespace Go.Proofs.YtgaeeklmifjigaaGreatFmt
open Go.RowKit Go.Deep Go.Lib Go.Sort

/-- Block lw holds a limited writer over the 32 bytes of block bb, of which the first ones are l. -/
def Lw (lw bb : Nat) (w : World) (l : List UInt8) : Prop :=
  w.heap[lw]? = some (.cells #[Value.slice (some ⟨bb, 0, none⟩) 32 32, Value.int .i64 (l.length : Int)] 117 (0, 0)) ∧
  ∃ cur : Array Value, w.heap[bb]? = some (.cells cur 5 (0, 0)) ∧ cur.size = 32 ∧ ∀ (j : Nat) (b : UInt8), l[j]? = some b → cur[j]? = some (.int .u8 (b.toNat : Int))
structure Two (lw bb : Nat) (w w' : World) : Prop where
  os : w'.os = w.os
  tape : w'.tape = w.tape
  output : w'.output = w.output
  size : w.heap.size ≤ w'.heap.size
  block : ∀ k, k < w.heap.size → k ≠ lw → k ≠ bb → w'.heap[k]? = w.heap[k]?
theorem Two.refl (lw bb : Nat) (w : World) : Two lw bb w w := ⟨rfl, rfl, rfl, Nat.le_refl _, fun _ _ _ _ => rfl⟩
theorem Two.trans {lw bb : Nat} {a b c : World} (h : Two lw bb a b) (k : Two lw bb b c) : Two lw bb a c :=
  ⟨k.os.trans h.os, k.tape.trans h.tape, k.output.trans h.output, Nat.le_trans h.size k.size, fun i hi h1 h2 => (k.block i (Nat.lt_of_lt_of_le hi h.size) h1 h2).trans (h.block i hi h1 h2)⟩
theorem Two.of_below {lw bb : Nat} {a b : World} (h : Below a.heap.size a b) : Two lw bb a b := ⟨h.os, h.tape, h.output, h.size, fun k hk _ _ => h.block k hk⟩
theorem Two.below {lw bb B : Nat} {w w' : World} (h : Two lw bb w w') (h1 : B ≤ lw) (h2 : B ≤ bb) (h3 : B ≤ w.heap.size) : Below B w w' := ⟨h.os, h.tape, h.output, h.size, fun k hk => h.block k (by omega) (by omega) (by omega)⟩
theorem Lw.kept {lw bb : Nat} {w w' : World} {l : List UInt8} (h : Lw lw bb w l) (h1 : w'.heap[lw]? = w.heap[lw]?) (h2 : w'.heap[bb]? = w.heap[bb]?) : Lw lw bb w' l := by
  obtain ⟨ha, cur, hb, hc⟩ := h
  exact ⟨h1.trans ha, cur, h2.trans hb, hc⟩
theorem Lw.lt {lw bb : Nat} {w : World} {l : List UInt8} (h : Lw lw bb w l) : lw < w.heap.size ∧ bb < w.heap.size := by
  obtain ⟨ha, cur, hb, _⟩ := h
  exact ⟨(Array.getElem?_eq_some_iff.1 ha).1, (Array.getElem?_eq_some_iff.1 hb).1⟩
theorem Lw.put {lw bb : Nat} {w : World} {l : List UInt8} (hne : lw ≠ bb) (m : List UInt8) {cur : Array Value} (ha : w.heap[lw]? = some (.cells #[Value.slice (some ⟨bb, 0, none⟩) 32 32, Value.int .i64 (l.length : Int)] 117 (0, 0)))
    (hb : w.heap[bb]? = some (.cells cur 5 (0, 0))) (h1 : cur.size = 32) (h3 : ∀ (j : Nat) (b : UInt8), l[j]? = some b → cur[j]? = some (.int .u8 (b.toNat : Int))) (hfit : l.length + m.length ≤ 32) (x : Int) (hx : x = (l.length : Int) + (m.length : Int))
    (C : Array Value) (hC : (cur.toList.take l.length ++ Lib.byteCells m ++ cur.toList.drop (l.length + m.length)).toArray = C) :
    Lw lw bb ((w.setRow bb C).setCell ⟨lw, 1, none⟩ (.int .i64 x)) (l ++ m) ∧ Two lw bb w ((w.setRow bb C).setCell ⟨lw, 1, none⟩ (.int .i64 x)) := by
  subst hx
  have hlm : (Lib.byteCells m).length = m.length := Own.byteCells_len m
  have hcl : cur.toList.length = 32 := by simpa using h1
  have htl : (cur.toList.take l.length).length = l.length := by rw [List.length_take]; omega
  refine ⟨⟨?_, C, ?_, ?_, fun j b hj => ?_⟩, rfl, rfl, rfl, ?_, fun k hk k1 k2 => ?_⟩
  · rw [Lib.heap_setCell_same (i := 1) ((setRow_other w bb lw _ hne).trans ha) _]
    simp
  · rw [Below.heap_setCell _ _ _ _ (fun c => hne c.symm)]
    exact setRow_heap w bb cur _ _ (0, 0) hb
  · rw [← hC]
    simp only [List.size_toArray, List.length_append, hlm, htl, List.length_drop, hcl]
    omega
  · rw [← hC, List.getElem?_toArray]
    by_cases c : j < l.length
    · rw [List.append_assoc, List.getElem?_append_left (by omega), List.getElem?_take_of_lt c, Array.getElem?_toList]
      rw [List.getElem?_append_left c] at hj
      exact h3 j b hj
    · rw [List.getElem?_append_right (by omega)] at hj
      have hjm : j - l.length < m.length := (List.getElem?_eq_some_iff.1 hj).1
      rw [List.getElem?_append_left (by rw [List.length_append]; omega), List.getElem?_append_right (by omega), htl]
      simp [Lib.byteCells, hj]
  · rw [Go.Deep.nblk_setCell, setRow_size]
    exact Nat.le_refl _
  · rw [Below.heap_setCell _ _ _ _ k1, setRow_other _ _ _ _ k2]

theorem run_copy_str {P : Program} (w : World) (dT sT ty elem : TypeId) (g o dLen dCap : Nat) (s : ByteArray) (m : List UInt8) (cur : Array Value) (t : TypeId)
    (hu : P.underlying dT = some (.slice elem)) (hs : (P.info? elem).map (·.size) = some 1) (hg : w.heap[g]? = some (.cells cur t (0, 0))) (hm : s.data.toList.take dLen = m) (hfit : o + m.length ≤ cur.size) :
    (Builtin.copy_ #[dT, sT] ty #[.slice (some ⟨g, o, none⟩) dLen dCap, .string s]).run P w =
      .ok (goInt m.length) (w.setRow g (cur.toList.take o ++ Lib.byteCells m ++ cur.toList.drop (o + m.length)).toArray) := by
  have hlen : (Lib.byteCells m).length = m.length := Own.byteCells_len m
  have hone : ∀ v ∈ Lib.byteCells m, v.oneCell' = true := by
    intro v hv
    simp only [Lib.byteCells, List.mem_map] at hv
    obtain ⟨b, _, rfl⟩ := hv
    rfl
  have hst := run_storeCells_at P g o t (Lib.byteCells m) 0 cur w hg (by rw [hlen]; simpa using hfit) hone
  have hsz : s.data.toList.length = s.size := rfl
  have hmin : m.length = Nat.min s.size dLen := by rw [← hm, List.length_take, hsz, Nat.min_comm]
  have htk : List.take (Nat.min s.size dLen) (List.map (fun b : UInt8 => Value.int IntKind.u8 (b.toNat : Int)) s.data.toList) = Lib.byteCells m := by
    rw [← List.map_take]
    unfold Lib.byteCells
    congr 1
    rw [← hm]
    by_cases c : s.size ≤ dLen
    · rw [List.take_of_length_le (by rw [hsz]; exact Nat.le_min.2 ⟨Nat.le_refl _, c⟩), List.take_of_length_le (by omega)]
    · rw [show Nat.min s.size dLen = dLen from Nat.min_eq_right (by omega)]
  rw [hlen] at hst
  simp only [Nat.add_zero] at hst
  cases hq : P.info? elem with
  | none => simp [hq] at hs
  | some i =>
    simp [Builtin.copy_, run_underlying hu, Builtin.lenOf, Builtin.firstCells, sizeOf, typeInfo, hq]
    rw [htk, hst]
    simp [Result.andThen, hmin]

theorem info_u8s : (Tryz.prog.info? 5).map (·.size) = some 1 := by kernel_rfl
set_option maxHeartbeats 4000000 in
set_option maxRecDepth 100000 in
theorem lw_writeString (lw bb : Nat) (hne : lw ≠ bb) (l : List UInt8) (s : ByteArray) (m : List UInt8) (hm : s.data.toList = m) (hfit : l.length + m.length < 32) (W : World) (h : Lw lw bb W l) :
    Calls Tryz.prog 285 #[.pointer (some ⟨lw, 0, none⟩), .string s] W
      fun e w' => e = .returned (.tuple #[.int .i64 m.length, .nilIface]) ∧ Lw lw bb w' (l ++ m) ∧ Two lw bb W w' := by
  obtain ⟨ha, cur, hb, hcs, hcl⟩ := h
  have c0 : W.cell? ⟨lw, 0, none⟩ = some (.slice (some ⟨bb, 0, none⟩) 32 32) := by rw [Lib.cell_of_heap ha]; rfl
  have c1 : W.cell? ⟨lw, 1, none⟩ = some (.int .i64 l.length) := by rw [Lib.cell_of_heap ha]; rfl
  obtain ⟨C, hC⟩ : ∃ C, (cur.toList.take l.length ++ Lib.byteCells m ++ cur.toList.drop (l.length + m.length)).toArray = C := ⟨_, rfl⟩
  have hput := fun x hx => Lw.put hne m ha hb hcs hcl (by omega) x hx C hC
  have htk : s.data.toList.take (32 - l.length) = m := by
    rw [List.take_of_length_le]
    · exact hm
    · rw [hm]
      omega
  have hcp : ∀ (w : World) (ty : TypeId), w.heap[bb]? = some (.cells cur 5 (0, 0)) → (Builtin.copy_ #[25, 9] ty #[.slice (some ⟨bb, l.length, none⟩) (32 - l.length) (32 - l.length), .string s]).run Tryz.prog w = .ok (goInt m.length) (w.setRow bb C) := fun w ty hw => by
    rw [run_copy_str (P := Tryz.prog) w 25 9 ty 5 bb l.length (32 - l.length) (32 - l.length) s m cur 5 Tryz.underlying25 info_u8s hw htk (by omega), hC]
  have hcp0 := fun ty => hcp W ty hb
  have hcp1 := fun ty => hcp W.drew ty hb
  have hd1 : (W.drew.setRow bb C).cell? ⟨lw, 1, none⟩ = some (.int .i64 l.length) := by rw [cell_setRow_other _ _ _ _ hne]; exact c1
  have hd0 : (W.drew.setRow bb C).cell? ⟨lw, 0, none⟩ = some (.slice (some ⟨bb, 0, none⟩) 32 32) := by rw [cell_setRow_other _ _ _ _ hne]; exact c0
  have hf1 : (W.drew.setRow bb C).frozen? ⟨lw, 1, none⟩ = false := Lib.frozen_of_heap ((setRow_other W.drew bb lw C hne).trans ha) 1
  obtain ⟨L, hL⟩ : ∃ L, l.length = L := ⟨_, rfl⟩
  obtain ⟨M, hM⟩ : ∃ M, m.length = M := ⟨_, rfl⟩
  rw [hL] at c1 hcp0 hcp1 hd1 hfit
  rw [hM] at hcp0 hcp1 hfit
  rw [hM]
  have HP := Lib.hid hput
  have HL := Lib.hid hL
  have HM := Lib.hid hM
  have hne32 : ¬ (32 = L) := by omega
  have hsl : ∀ w, (Instr.slice 25 (.slice (some ⟨bb, 0, none⟩) 32 32) (some (.int .i64 (L : Int))) none none).run Tryz.prog w = .ok (.slice (some ⟨bb, L, none⟩) (32 - L) (32 - L)) w := fun w => by
    rw [run_slice_l w 25 (some ⟨bb, 0, none⟩) 32 32 (by kernel_rfl) .i64 (L : Int) (by omega) (by omega)]
    go_simp
  clear hput hcp hC hL hM ha hb hcs hcl hm htk
  go_enter Tryz.func285, Tryz.ntmps285
  go_wp2_with fail
  go_region
  go_wp2_with fail
  have he0 : ((W.drew.setRow bb C).setCell ⟨lw, 1, none⟩ (.int .i64 ((L : Int) + (M : Int)))).cell? ⟨lw, 0, none⟩ = some (.slice (some ⟨bb, 0, none⟩) 32 32) := by rw [World.cell?_setCell_other _ _ _ _ (by simp)]; exact hd0
  go_region
  go_wp2_with fail
  go_ret2
  have hp := HP.out ((L : Int) + (M : Int)) (by rw [HL.out, HM.out])
  exact ⟨rfl, hp.1, ⟨hp.2.os, hp.2.tape, hp.2.output, hp.2.size, hp.2.block⟩⟩

set_option maxHeartbeats 4000000 in
set_option maxRecDepth 100000 in
theorem lw_write (T : TypeId) (ifc : Value) (lw bb eb : Nat) (hne : lw ≠ bb) (l : List UInt8) (m : List UInt8) (hfit : l.length + m.length < 32) (W : World) (h : Lw lw bb W l) (hE : Enc T eb ifc W m) :
    Calls Tryz.prog 283 #[.pointer (some ⟨lw, 0, none⟩), .slice (some ⟨eb, 1, none⟩) m.length 64] W
      fun e w' => e = .returned (.tuple #[.int .i64 m.length, .nilIface]) ∧ Lw lw bb w' (l ++ m) ∧ Two lw bb W w' := by
  obtain ⟨ha, cur, hb, hcs, hcl⟩ := h
  have c0 : W.cell? ⟨lw, 0, none⟩ = some (.slice (some ⟨bb, 0, none⟩) 32 32) := by rw [Lib.cell_of_heap ha]; rfl
  have c1 : W.cell? ⟨lw, 1, none⟩ = some (.int .i64 l.length) := by rw [Lib.cell_of_heap ha]; rfl
  obtain ⟨C, hC⟩ : ∃ C, (cur.toList.take l.length ++ Lib.byteCells m ++ cur.toList.drop (l.length + m.length)).toArray = C := ⟨_, rfl⟩
  have hput := fun x hx => Lw.put hne m ha hb hcs hcl (by omega) x hx C hC
  have hone : ∀ v ∈ Lib.byteCells m, v.oneCell' = true := by
    intro v hv
    simp only [Lib.byteCells, List.mem_map] at hv
    obtain ⟨b, _, rfl⟩ := hv
    rfl
  have hlm : (Lib.byteCells m).length = m.length := Own.byteCells_len m
  have hcp : ∀ (w : World) (ty : TypeId), Enc T eb ifc w m → w.heap[bb]? = some (.cells cur 5 (0, 0)) → (Builtin.copy_ #[25, 25] ty #[.slice (some ⟨bb, l.length, none⟩) (32 - l.length) (32 - l.length), .slice (some ⟨eb, 1, none⟩) m.length 64]).run Tryz.prog w = .ok (goInt m.length) (w.setRow bb C) := fun w ty he hw => by
    rw [run_copy_row (P := Tryz.prog) w 25 25 ty 5 bb l.length (32 - l.length) (32 - l.length) ⟨eb, 1, none⟩ m.length 64 cur 5 (Lib.byteCells m) Tryz.underlying25 info_u8s hw (by rw [hlm, show Nat.min m.length (32 - l.length) = m.length from Nat.min_eq_left (by omega)]) (fun j v hj => by
      simp only [Lib.byteCells, List.getElem?_map, Option.map_eq_some_iff] at hj
      obtain ⟨x, hx, rfl⟩ := hj
      exact he.bytes j x hx) (by rw [hlm]; omega) hone, hlm, hC]
  have hcp0 := fun ty => hcp W ty hE hb
  have hcp1 := fun ty => hcp W.drew ty hE hb
  have hd1 : (W.drew.setRow bb C).cell? ⟨lw, 1, none⟩ = some (.int .i64 l.length) := by rw [cell_setRow_other _ _ _ _ hne]; exact c1
  have hd0 : (W.drew.setRow bb C).cell? ⟨lw, 0, none⟩ = some (.slice (some ⟨bb, 0, none⟩) 32 32) := by rw [cell_setRow_other _ _ _ _ hne]; exact c0
  have hf1 : (W.drew.setRow bb C).frozen? ⟨lw, 1, none⟩ = false := Lib.frozen_of_heap ((setRow_other W.drew bb lw C hne).trans ha) 1
  obtain ⟨L, hL⟩ : ∃ L, l.length = L := ⟨_, rfl⟩
  obtain ⟨M, hM⟩ : ∃ M, m.length = M := ⟨_, rfl⟩
  rw [hL] at c1 hcp0 hcp1 hd1 hfit
  rw [hM] at hcp0 hcp1 hfit
  rw [hM]
  have HP := Lib.hid hput
  have HL := Lib.hid hL
  have HM := Lib.hid hM
  have hne32 : ¬ (32 = L) := by omega
  have hsl : ∀ w, (Instr.slice 25 (.slice (some ⟨bb, 0, none⟩) 32 32) (some (.int .i64 (L : Int))) none none).run Tryz.prog w = .ok (.slice (some ⟨bb, L, none⟩) (32 - L) (32 - L)) w := fun w => by
    rw [run_slice_l w 25 (some ⟨bb, 0, none⟩) 32 32 (by kernel_rfl) .i64 (L : Int) (by omega) (by omega)]
    go_simp
  clear hput hcp hC hL hM ha hb hcs hcl hone hlm hE
  go_enter Tryz.func283, Tryz.ntmps283
  go_wp2_with fail
  go_region
  go_wp2_with fail
  have he0 : ((W.drew.setRow bb C).setCell ⟨lw, 1, none⟩ (.int .i64 ((L : Int) + (M : Int)))).cell? ⟨lw, 0, none⟩ = some (.slice (some ⟨bb, 0, none⟩) 32 32) := by rw [World.cell?_setCell_other _ _ _ _ (by simp)]; exact hd0
  go_region
  go_wp2_with fail
  go_ret2
  have hp := HP.out ((L : Int) + (M : Int)) (by rw [HL.out, HM.out])
  exact ⟨rfl, hp.1, ⟨hp.2.os, hp.2.tape, hp.2.output, hp.2.size, hp.2.block⟩⟩

end Go.Proofs.YtgaeeklmifjigaaGreatFmt
