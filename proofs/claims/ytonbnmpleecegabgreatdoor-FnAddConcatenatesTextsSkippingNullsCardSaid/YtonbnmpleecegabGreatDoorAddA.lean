/- Contract: add over a slice of rows of ints: their elements in order, in one new row. -/
import Derived.Test.YtonbnmpleecegabGreatDoorIter
import Derived.Test.YtonbnmpleecegabGreatDoorIntC
import Derived.Laws.CopyRow
import Derived.Laws.CopyOwn
namespace Go.Proofs.YtonbnmpleecegabGreatDoor
open Go.RowKit Go.Shelf Go.Deep

attribute [local go_sem] Oper.semAt_some

@[go_sem] theorem as_nil_sb (w : World) : (Instr.typeAssert .nilIface 20 49 true).run Tryz.prog w = .ok (.tuple #[.pointer none, .bool false]) w := by kernel_rfl
@[go_sem] theorem as_anys_sb (v : Value) (w : World) : (Instr.typeAssert (.iface 38 v) 20 49 true).run Tryz.prog w = .ok (.tuple #[.pointer none, .bool false]) w := by kernel_rfl
@[go_sem] theorem as_sb_sb (v : Value) (w : World) : (Instr.typeAssert (.iface 49 v) 20 49 true).run Tryz.prog w = .ok (.tuple #[v, .bool true]) w := by kernel_rfl
@[go_sem] theorem mk_sb (x : Value) (w : World) : (Instr.makeInterface 49 x).run Tryz.prog w = .ok (.iface 49 x) w := run_makeInterface w _ x (by kernel_rfl)
@[go_sem] theorem notnil_sb (v : Value) (w : World) : (binOp .eql 20 (.iface 49 v) .nilIface).run Tryz.prog w = .ok (.bool false) w := by kernel_rfl
@[go_sem] theorem nil_nil (w : World) : (binOp .eql 20 .nilIface .nilIface).run Tryz.prog w = .ok (.bool true) w := by kernel_rfl
def anyF (zs : List Int) : Nat → Value := fun j => .iface 3 (IntF zs j)
/-- A row of ints as interface values, at the head of an old block. -/
structure RowA (w : World) (M : Nat) where
  b : Nat
  zs : List Int
  lt : b < w.heap.size
  len : zs.length ≤ M
  cells : ∀ i, i < zs.length → w.cell? ⟨b, i, none⟩ = some (anyF zs i)
def encA {w : World} {M : Nat} (x : RowA w M) : Value := .iface 38 (.slice (some ⟨x.b, 0, none⟩) x.zs.length x.zs.length)
def accZ {w : World} {M : Nat} (pre : List (RowA w M)) : List Int := pre.flatMap fun x => x.zs
def cellsZ (zs : List Int) : List Value := zs.map fun z => .iface 3 (.int .i64 z)
theorem cellsZ_append (a b : List Int) : cellsZ (a ++ b) = cellsZ a ++ cellsZ b := by simp [cellsZ]
theorem cellsZ_len (a : List Int) : (cellsZ a).length = a.length := by simp [cellsZ]
theorem cellsZ_get (zs : List Int) (i : Nat) (u : Value) (h : (cellsZ zs)[i]? = some u) : i < zs.length ∧ u = anyF zs i := by
  unfold cellsZ at h
  rw [List.getElem?_map] at h
  cases hz : zs[i]? with
  | none => rw [hz] at h; cases h
  | some z =>
    rw [hz] at h
    have hlt : i < zs.length := (List.getElem?_eq_some_iff.1 hz).1
    refine ⟨hlt, ?_⟩
    unfold anyF IntF
    rw [List.getD_eq_getElem?_getD, hz]
    simpa using h.symm
theorem cellsZ_one (zs : List Int) : ∀ u ∈ cellsZ zs, u.oneCell' = true := by
  intro u hu
  obtain ⟨z, _, rfl⟩ := List.mem_map.1 hu
  rfl
theorem accZ_snoc {w : World} {M : Nat} (pre : List (RowA w M)) (x : RowA w M) : accZ (pre ++ [x]) = accZ pre ++ x.zs := by simp [accZ]
theorem accZ_len {w : World} {M : Nat} : ∀ (pre : List (RowA w M)), (accZ pre).length ≤ pre.length * M
  | [] => by simp [accZ]
  | x :: pre => by
    have h1 := accZ_len pre
    have h2 := x.len
    show (x.zs ++ accZ pre).length ≤ (pre.length + 1) * M
    rw [List.length_append, Nat.add_mul]
    omega
/-- What stands in v behind the rounds pre. -/
def AccOk {w : World} {M : Nat} (n₀ : Nat) (W : World) (pre : List (RowA w M)) (v : Value) : Prop :=
  (pre = [] ∧ v = .nilIface) ∨ ∃ sv, pre ≠ [] ∧ v = .iface 38 sv ∧ (∃ g cap, sv = .slice (some ⟨g, 0, none⟩) (accZ pre).length cap) ∧ W.ownsRow n₀ 20 1 sv (accZ pre).length (cellsZ (accZ pre))
theorem ownsRow_own {W W' : World} {n₀ : Nat} {e : TypeId} {size : Nat} {v : Value} {k : Nat} {xs : List Value} {row : Option Nat} (hr : W.ownsRow n₀ e size v k xs) (hg : W.grownBy W' row)
    (hrow : ∀ r, row = some r → ∃ o : Obj, W.heap[r]? = some o ∧ o.isCells = false) : W'.ownsRow n₀ e size v k xs := by
  refine hr.kept hg ?_
  rcases hr.2 with ⟨rfl, _⟩ | ⟨g, cap, cur, rfl, _, hgb, _⟩
  · exact .inl rfl
  · refine .inr fun e' => ?_
    obtain ⟨o, ho, hc⟩ := hrow g (by simpa [Value.ownBlock] using e'.symm)
    rw [hgb] at ho; cases ho; cases hc
theorem boxed_kept {W W' : World} {B : Nat} {t : TypeId} {v : Value} {row : Option Nat} (hv : Boxed W B t v) (hg : W.grownBy W' row) (hrow : ∀ r, row = some r → ∃ o : Obj, W.heap[r]? = some o ∧ o.isCells = false) : Boxed W' B t v :=
  hv.kept hg (fun e' => by
    obtain ⟨o, ho, hc⟩ := hrow B e'.symm
    rw [show W.heap[B]? = _ from hv] at ho; cases ho; cases hc)
def AccI {w : World} {M : Nat} (n₀ B : Nat) (pre : List (RowA w M)) (W : World) : Prop := (∃ v, Boxed W (B + 1) 20 v ∧ AccOk n₀ W pre v) ∧ Boxed W B 20 .nilIface
theorem accI_own {w : World} {M : Nat} (n₀ B : Nat) : Own (AccI (w := w) (M := M) n₀ B) := by
  rintro s X Y row ⟨⟨v, hv, hr⟩, hb⟩ hg hrow
  refine ⟨⟨v, boxed_kept hv hg hrow, ?_⟩, boxed_kept hb hg hrow⟩
  rcases hr with h | ⟨sv, h1, h2, h3, h4⟩
  · exact .inl h
  · exact .inr ⟨sv, h1, h2, h3, ownsRow_own h4 hg hrow⟩
theorem alloc_setRow (W : World) (c c' : Array Value) (t : TypeId) : (W.alloc (.cells c t)).setRow W.heap.size c' = W.alloc (.cells c' t) := by
  unfold World.setRow World.alloc
  congr 1
  apply Array.ext
  · simp
  · intro i h1 h2
    simp only [Array.getElem_modify]
    by_cases e : W.heap.size = i
    · subst e; simp
    · rw [if_neg e]
      have : i < W.heap.size := by simp at h1; omega
      rw [Array.getElem_push_lt this, Array.getElem_push_lt this]
set_option maxRecDepth 20000 in
theorem copy_new (W : World) (zs : List Int) (b : Nat) (hlt : b < W.heap.size) (hc : ∀ i, i < zs.length → W.cell? ⟨b, i, none⟩ = some (anyF zs i)) :
    (Builtin.copy_ #[38, 38] 3 #[.slice (some ⟨W.heap.size, 0, none⟩) zs.length zs.length, .slice (some ⟨b, 0, none⟩) zs.length zs.length]).run Tryz.prog (W.alloc (.cells (madeCells #[.nilIface] zs.length) 20)) =
      .ok (goInt (zs.length : Int)) (W.alloc (.cells (cellsZ zs).toArray 20)) := by
  have h := run_copy_row (P := Tryz.prog) (W.alloc (.cells (madeCells #[.nilIface] zs.length) 20)) 38 38 3 20 W.heap.size 0 zs.length zs.length ⟨b, 0, none⟩ zs.length zs.length (madeCells #[.nilIface] zs.length) 20 (cellsZ zs)
    Tryz.underlying38 (by kernel_rfl) (heap_alloc_new _ _) (by rw [cellsZ_len]; exact (Nat.min_self _).symm)
    (fun j v hj => by
      obtain ⟨h1, rfl⟩ := cellsZ_get zs j v hj
      rw [WideShapes.add_plain, Nat.zero_add]
      exact (World.cell?_alloc_lt _ _ _ hlt).trans (hc j h1))
    (by rw [cellsZ_len, size_madeCells]; omega) (cellsZ_one zs)
  have e : ((madeCells #[.nilIface] zs.length).toList.take 0 ++ cellsZ zs ++ (madeCells #[.nilIface] zs.length).toList.drop (0 + (cellsZ zs).length)) = cellsZ zs := by
    rw [List.take_zero, List.nil_append, List.drop_eq_nil_of_le (by rw [cellsZ_len, Array.length_toList, size_madeCells]; omega), List.append_nil]
  rw [e, alloc_setRow, cellsZ_len] at h
  exact h
theorem wpListIn_copy_run {F : Fence} {n : Nat} {P : Program} (w : World) {ops : Array Oper} {rest : List Oper} {o : Oper} {a : Act} {Q : Exit → Act → World → Prop}
    (hg : o.guard = none) (d s : Operand) (dT sT : TypeId) (hop : o.op = Op.call { callee := Callee.builtin Builtin.copy, args := #[d, s], argTypes := #[dT, sT] })
    (dv sv : Value) (hd : a.eval d = dv) (hs : a.eval s = sv) (r : Value) (w' : World) (hrun : (Builtin.copy_ #[dT, sT] o.type #[dv, sv]).run P w = .ok r w')
    (hK : wpListIn F n P ops Q rest (a.put o.dst r) w') : wpListIn F n P ops Q (o :: rest) a w := by
  refine wpListIn_plain hg fun K hK' => ?_
  unfold Oper.wpIn
  refine ⟨?_, ?_⟩
  · simp [Oper.about, hop, resolve, Target.leads, Sem.run_pure]
  · rw [Oper.semAt_plain F _ _ (by rw [hop]; intro c hc'; cases hc')]
    simp [execOp, hop, resolve, invoke, builtin, hd, hs, hrun, Result.andThen]
    exact hK' _ _ hK
theorem ownsRow_new (W : World) (zs : List Int) (h : zs.length ≤ maxLen) : (W.alloc (.cells (cellsZ zs).toArray 20)).ownsRow W.heap.size 20 1 (.slice (some ⟨W.heap.size, 0, none⟩) zs.length zs.length) zs.length (cellsZ zs) := by
  refine ⟨by rw [cellsZ_len, Nat.mul_one], .inr ⟨W.heap.size, zs.length, (cellsZ zs).toArray, rfl, Nat.le_refl _, heap_alloc_new _ _, Nat.le_refl _, h, ?_, ?_⟩⟩
  · simp [cellsZ_len]
  · show (cellsZ zs).take (zs.length * 1) = cellsZ zs
    rw [Nat.mul_one, List.take_of_length_le (by rw [cellsZ_len]; exact Nat.le_refl _)]
def AccPost {w : World} {M : Nat} (D : Nat) (pre : List (RowA w M)) (W W' : World) : Prop :=
  KeepsFrom D W W' ∧ Below w.heap.size W W' ∧ AccI (w.heap.size + 2) w.heap.size pre W' ∧ Below w.heap.size w W'
theorem ownsRow_mono {w : World} {B B' : Nat} {e : TypeId} {size : Nat} {v : Value} {k : Nat} {xs : List Value} (h : w.ownsRow B e size v k xs) (hb : B' ≤ B) : w.ownsRow B' e size v k xs := by
  refine ⟨h.1, ?_⟩
  rcases h.2 with h0 | ⟨g, cap, cur, h1, h2, h3⟩
  · exact .inl h0
  · exact .inr ⟨g, cap, cur, h1, Nat.le_trans hb h2, h3⟩
theorem acc_first {w : World} {M : Nat} (D : Nat) (W : World) (hv : Boxed W (w.heap.size + 1) 20 .nilIface) (hb0 : Boxed W w.heap.size 20 .nilIface) (hB : Below w.heap.size w W) (x : RowA w M) (hm : x.zs.length ≤ maxLen) :
    AccPost D [x] W ((W.setCell ⟨w.heap.size + 1, 0, none⟩ (.iface 38 (.slice (some ⟨W.heap.size, 0, none⟩) x.zs.length x.zs.length))).alloc (.cells (cellsZ x.zs).toArray 20)) := by
  have hl := hv.lt
  have hz : (W.setCell ⟨w.heap.size + 1, 0, none⟩ (.iface 38 (.slice (some ⟨W.heap.size, 0, none⟩) x.zs.length x.zs.length))).heap.size = W.heap.size := by simp
  have h1 : Below w.heap.size W ((W.setCell ⟨w.heap.size + 1, 0, none⟩ (.iface 38 (.slice (some ⟨W.heap.size, 0, none⟩) x.zs.length x.zs.length))).alloc (.cells (cellsZ x.zs).toArray 20)) :=
    ((Below.refl _ W).setCell (p := ⟨w.heap.size + 1, 0, none⟩) (by simp) _).alloc (by rw [hz]; omega) _
  refine ⟨((KeepsOthers.setCell _ _ _).trans (KeepsOthers.alloc _ _)).from _, h1, ⟨⟨_, (hv.set _).alloc _, .inr ⟨_, by simp, rfl, ⟨W.heap.size, x.zs.length, by simp [accZ]⟩, ?_⟩⟩, (hb0.kept (grownBy_setCell' _ _ _) (by simp)).alloc _⟩, hB.trans h1⟩
  have h2 := ownsRow_new (W.setCell ⟨w.heap.size + 1, 0, none⟩ (.iface 38 (.slice (some ⟨W.heap.size, 0, none⟩) x.zs.length x.zs.length))) x.zs hm
  rw [hz] at h2
  have e : accZ [x] = x.zs := by simp [accZ]
  rw [e]
  exact ownsRow_mono h2 (by omega)
theorem ownsRow_some {w : World} {B : Nat} {e : TypeId} {size : Nat} {v : Value} {k : Nat} {xs : List Value} (h : w.ownsRow B e size v k xs) (hne : v ≠ .slice none 0 0) : ∃ g cap, v = .slice (some ⟨g, 0, none⟩) k cap := by
  rcases h.2 with ⟨rfl, h0⟩ | ⟨g, cap, _, rfl, _⟩
  · exact absurd rfl hne
  · exact ⟨g, cap, rfl⟩
theorem acc_next {w : World} {M : Nat} (D : Nat) (W w1 : World) (pre : List (RowA w M)) (v0 : Value) (g cp g' cp' : Nat) (hv : Boxed W (w.heap.size + 1) 20 v0) (hb0 : Boxed W w.heap.size 20 .nilIface) (hB : Below w.heap.size w W) (x : RowA w M)
    (hrow : W.ownsRow (w.heap.size + 2) 20 1 (.slice (some ⟨g, 0, none⟩) (accZ pre).length cp) (accZ pre).length (cellsZ (accZ pre)))
    (hown : w1.ownsRow (w.heap.size + 2) 20 1 (.slice (some ⟨g', 0, none⟩) ((accZ pre).length + x.zs.length) cp') ((accZ pre).length + x.zs.length) (cellsZ (accZ pre) ++ cellsZ x.zs)) (hgrow : W.grownBy w1 (some g)) :
    Boxed w1 (w.heap.size + 1) 20 v0 ∧ AccPost D (pre ++ [x]) W (w1.setCell ⟨w.heap.size + 1, 0, none⟩ (.iface 38 (.slice (some ⟨g', 0, none⟩) ((accZ pre).length + x.zs.length) cp'))) := by
  obtain ⟨hg1, hg2⟩ := hrow.lt g rfl
  obtain ⟨hg3, _⟩ := hown.lt g' rfl
  have hv1 : Boxed w1 (w.heap.size + 1) 20 v0 := hv.kept hgrow (fun e => by have h : w.heap.size + 1 = g := Option.some.inj e; omega)
  have hb1 : Boxed w1 w.heap.size 20 .nilIface := hb0.kept hgrow (fun e => by have h : w.heap.size = g := Option.some.inj e; omega)
  have hcell : ∀ o : Obj, W.heap[g]? = some o → o.isCells = true := fun o ho => by
    rcases hrow.2 with ⟨h0, _⟩ | ⟨g2, cap, cur, h0, _, hgb, _⟩
    · cases h0
    · cases h0; rw [hgb] at ho; cases ho; rfl
  have h1 : Below w.heap.size W w1 := (Below.refl _ W).grown hgrow hB.size (fun k e => by have h : g = k := Option.some.inj e; omega)
  have h2 : Below w.heap.size W (w1.setCell ⟨w.heap.size + 1, 0, none⟩ (.iface 38 (.slice (some ⟨g', 0, none⟩) ((accZ pre).length + x.zs.length) cp'))) := h1.setCell (p := ⟨w.heap.size + 1, 0, none⟩) (by simp) _
  refine ⟨hv1, ((KeepsOthers.of_grownBy hgrow fun j o ej hj => by
    obtain rfl : g = j := Option.some.inj ej
    exact hcell o hj).trans (KeepsOthers.setCell _ _ _)).from _, h2, ⟨⟨_, hv1.set _, .inr ⟨_, by simp, rfl, ⟨g', cp', by rw [accZ_snoc, List.length_append]⟩, ?_⟩⟩, hb1.kept (grownBy_setCell' _ _ _) (by simp)⟩, hB.trans h2⟩
  rw [accZ_snoc, List.length_append, cellsZ_append]
  exact hown.kept (grownBy_setCell' _ _ _) (.inr (fun e => by have h : g' = w.heap.size + 1 := Option.some.inj e; omega))
set_option maxRecDepth 100000 in
set_option maxHeartbeats 8000000 in
theorem add_arr_in (F : Fence) (n : Nat) (hA : F.fn 14) (hV : F.fn 22) (hro : F.round = none) (hn : 3 ≤ n) (M len : Nat) (hM : M ≤ 131072) (hlen : len ≤ 65536) (w : World) (fr : Nat → RowA w M) (Bs b off cap : Nat)
    (hBs : w.cell? ⟨Bs, 0, none⟩ = some (.slice (some ⟨b, off, none⟩) len cap)) (hBl : Bs < w.heap.size) (hb : b < w.heap.size) (hc : ∀ j, j < len → w.cell? ⟨b, off + j, none⟩ = some (encA (fr j))) :
    CallsIn F n Tryz.prog 14 #[.func (.func 22) #[] #[.pointer (some ⟨Bs, 0, none⟩)]] w fun e W' => ∃ v, e = .returned v ∧ AccOk (w.heap.size + 2) W' (upto fr len) v ∧ Below w.heap.size w W' := by
  have h1 : 1 ≤ n := by omega
  obtain ⟨i0, hi, hz0, hz1, hz2⟩ := info_parts info_anyI
  refine callsIn_of_wp_marks Tryz.func14 rfl hA ?_ hro
  simp only [Tryz.ntmps14, List.size_toArray, List.length_cons, List.length_nil, Nat.reduceAdd, Nat.reduceSub, Array.replicate_succ, Array.replicate_zero, List.push_toArray, List.append_toArray, List.nil_append, List.cons_append]
  gi_wp2
  have b0 := Boxed.new w 20 .nilIface
  have b1 := Boxed.new (w.alloc (.cells #[.nilIface] 20)) 20 .nilIface
  rw [World.size_alloc] at b1
  have hB0 : Below w.heap.size w ((w.alloc (.cells #[.nilIface] 20)).alloc (.cells #[.nilIface] 20)) := ((Below.refl _ w).alloc (Nat.le_refl _) _).alloc (by simp) _
  refine wpIn_rangeFunc_ownG hro h1 (gf := 22) (lb := #[.pointer (some ⟨Bs, 0, none⟩)]) rfl hV (enters_of Tryz.func22 (by kernel_rfl) rfl)
    (values_stops encA fr F (n - 1) hV hro (by omega) Bs w.heap.size b off len cap (by omega) (fun _ => hb) _ (by simp; omega) (by simp; omega) ((hB0.cell (p := ⟨Bs, 0, none⟩) hBl).trans hBs) (fun j hj => (hB0.cell (p := ⟨b, off + j, none⟩) hb).trans (hc j hj))) belowK_t (belowK_b (by simp; omega)) (Below.refl _ _) (fun _ => rfl)
    (fun pre W => AccI (w.heap.size + 2) w.heap.size pre W ∧ Below w.heap.size w W)
    (fun _ _ _ => False)
    (OwnFrom.and (Own.from (accI_own (w.heap.size + 2) w.heap.size) _) (ownFrom_below (Nat.le_refl _) (by simp; omega)))
    (fun _ _ _ _ _ hs _ _ => hs)
    ⟨⟨⟨_, b1, .inl ⟨rfl, rfl⟩⟩, b0.alloc _⟩, hB0⟩
    (fun x => { tmps := #[.func (.func 22) #[] #[.pointer (some ⟨Bs, 0, none⟩)], undef, .pointer (some ⟨w.heap.size, 0, none⟩), .pointer (some ⟨w.heap.size + 1, 0, none⟩), encA x, undef, undef, undef, undef, undef, undef, undef, undef, undef, undef, undef, undef, undef, undef, undef, undef, undef, undef, .func (.func 22) #[] #[.pointer (some ⟨Bs, 0, none⟩)], encA x, undef, undef, undef, undef, undef, undef, undef, undef, undef, undef, undef, undef, undef, undef, undef, undef, undef, undef, undef, undef, undef, undef, undef, undef, undef, undef, undef, undef, undef, undef, undef, undef, undef, undef, undef, undef, undef, undef, undef, undef, undef, undef, undef, undef, undef, undef, undef, undef, undef, undef, undef, undef, undef, undef, undef, undef, undef, undef, undef, undef, undef, undef, undef, undef, undef, undef, undef, undef, undef, undef, undef, undef, undef, undef, undef, undef, undef, undef, undef], defers := [] }) ?assign ?body ?done ?stop
  case assign =>
    intro l x W K hK
    gi_wp2
    exact hK
  case body =>
    rintro l pre x W ⟨⟨⟨v, hv, hacc⟩, hb0⟩, hB⟩ hlt
    have hcv := hv.cell
    have hfv := hv.frozen
    have hvl : w.heap.size + 1 < W.heap.size := hv.lt
    have hxb : x.b < W.heap.size := Nat.lt_of_lt_of_le x.lt hB.size
    have hxc : ∀ i, i < x.zs.length → W.cell? ⟨x.b, i, none⟩ = some (anyF x.zs i) := fun i hi => (hB.cell (p := ⟨x.b, i, none⟩) x.lt).trans (x.cells i hi)
    have hxl := x.len
    have hal := accZ_len pre
    have hal2 : (accZ pre).length ≤ 65536 * 131072 := Nat.le_trans hal (Nat.mul_le_mul (by omega) hM)
    unfold encA
    rcases hacc with ⟨rfl, rfl⟩ | ⟨sv, hne, rfl, ⟨g, cp, rfl⟩, hrow⟩
    · have hmk := fun w => run_make_row' (P := Tryz.prog) 38 20 .nilIface 16 Tryz.underlying38 info_anyI rfl .i64 .i64 x.zs.length (by omega) (by omega) w
      have hcp := copy_new W x.zs x.b hxb hxc
      have HCP := Lib.hid hcp
      have HXC := Lib.hid hxc
      clear hcp hxc
      gi_wp2_with (refine wpListIn_copy_run _ rfl (.tmp 49) (.tmp 50) 38 38 rfl _ _ rfl rfl _ _ HCP.out ?_)
      exact acc_first _ W hv hb0 hB x (by unfold maxLen; omega)
    · have hgs : W.heap.size < 9223372036854775808 ∨ True := Or.inr trivial
      clear hgs
      gi_wp2_with (gi_at_builtin; refine wpListIn_append_own _ rfl _ _ 38 rfl (w.heap.size + 2) 20 i0 .nilIface 1 16 Tryz.underlying38 hi hz0 hz1 hz2 rfl (by decide) _ _ _ rfl hrow ⟨x.b, 0, none⟩ x.zs.length x.zs.length (cellsZ x.zs) rfl (by rw [cellsZ_len]; omega) (fun j u hj => by obtain ⟨h1, rfl⟩ := cellsZ_get _ j u hj; rw [WideShapes.add_plain, Nat.zero_add]; exact hxc j h1) (cellsZ_one _) (by unfold maxLen; omega) (by omega) (by omega) ?_; intro v' w1 hown' hgrow hnil; obtain ⟨g', cp', rfl⟩ := ownsRow_some hown' (fun e => by have := (hnil.1 e).1; cases this); obtain ⟨hv1, hpost⟩ := acc_next ((w.alloc (.cells #[.nilIface] 20)).alloc (.cells #[.nilIface] 20)).heap.size W w1 pre _ g cp g' cp' hv hb0 hB x hrow hown' hgrow; have hc1 := hv1.cell; have hf1 := hv1.frozen)
      exact hpost
  case done =>
    rintro D ys W hD rfl ⟨⟨⟨v, hv, hacc⟩, hb0⟩, hB⟩ hK
    have hcv := hv.cell
    have hc0 := hb0.cell
    have hf0 := hb0.frozen
    rcases hacc with ⟨h0, rfl⟩ | ⟨sv, hne, rfl, hg, hrow⟩
    · gi_wp2
      have hK2 := (KeepsOthers.setCell W ⟨w.heap.size, 0, none⟩ (.nilIface)).same D _ hK rfl
      have hcs : (W.setCell ⟨w.heap.size, 0, none⟩ (.nilIface)).cell? ⟨w.heap.size, 0, none⟩ = some (.nilIface) := (hb0.set _).cell
      have hcp : ((W.setCell ⟨w.heap.size, 0, none⟩ (.nilIface)).putObj D (.deferred none)).cell? ⟨w.heap.size, 0, none⟩ = some (.nilIface) := cell_kept hcs (grownBy_putObj' _ D (.deferred none)) (fun r e => by cases e; exact ⟨_, hK2, rfl⟩)
      have hBf : Below w.heap.size w ((W.setCell ⟨w.heap.size, 0, none⟩ (.nilIface)).putObj D (.deferred none)) := (hB.setCell (p := ⟨w.heap.size, 0, none⟩) (Nat.le_refl _) _).trans (belowK_b (w := w) (Nat.le_refl _) _ D _ _ (by simp at hD; omega) hK2 rfl rfl)
      refine ⟨by simp, .inl ⟨_, _, rfl, run_takeDeferred hK2, ?_⟩⟩
      refine ⟨.nilIface, by simp [results, Tryz.results14, go_sem, hcp], .nilIface, rfl, .inl ⟨h0, rfl⟩, hBf⟩
    · gi_wp2
      have hK2 := (KeepsOthers.setCell W ⟨w.heap.size, 0, none⟩ (.iface 38 sv)).same D _ hK rfl
      have hcs : (W.setCell ⟨w.heap.size, 0, none⟩ (.iface 38 sv)).cell? ⟨w.heap.size, 0, none⟩ = some (.iface 38 sv) := (hb0.set _).cell
      have hcp : ((W.setCell ⟨w.heap.size, 0, none⟩ (.iface 38 sv)).putObj D (.deferred none)).cell? ⟨w.heap.size, 0, none⟩ = some (.iface 38 sv) := cell_kept hcs (grownBy_putObj' _ D (.deferred none)) (fun r e => by cases e; exact ⟨_, hK2, rfl⟩)
      have hBf : Below w.heap.size w ((W.setCell ⟨w.heap.size, 0, none⟩ (.iface 38 sv)).putObj D (.deferred none)) := (hB.setCell (p := ⟨w.heap.size, 0, none⟩) (Nat.le_refl _) _).trans (belowK_b (w := w) (Nat.le_refl _) _ D _ _ (by simp at hD; omega) hK2 rfl rfl)
      refine ⟨by simp, .inl ⟨_, _, rfl, run_takeDeferred hK2, ?_⟩⟩
      refine ⟨.iface 38 sv, by simp [results, Tryz.results14, go_sem, hcp], .iface 38 sv, rfl, .inr ⟨sv, hne, rfl, hg, ownsRow_putObj (hrow.kept (grownBy_setCell' _ _ _) (.inr (fun e => by have := (hrow.lt _ e).1; omega))) _ hK2 rfl⟩, hBf⟩
  case stop =>
    rintro D c pre W _ _ h _
    exact h.elim
end Go.Proofs.YtonbnmpleecegabGreatDoor
