/- Slices of texts and of bools: arguments, clones. -/
import Derived.Test.YtonbnmpleecegabGreatDoorFacts
import Derived.Test.YtonbnmpleecegabGreatDoorIntC
import Derived.Test.YtonbnmpleecegabGreatDoorAddR
import Derived.SliceStrings
namespace Go.Proofs.YtonbnmpleecegabGreatDoor
section
open Go.ChangeShapes Go.WideShapes Go.ChangeAt Go.RowKit Go.WideMaps Go.WideElems
theorem cells_string : Tryz.prog.cellsOf 9 = 1 := by kernel_rfl
theorem cells_bool : Tryz.prog.cellsOf 4 = 1 := by kernel_rfl
def StrArg (w : World) (v : Value) (ss : List ByteArray) : Prop :=
  (v = .slice none 0 0 ∧ ss = []) ∨ (∃ a cap, v = .slice (some a) 0 cap ∧ ss = []) ∨
  ∃ b off cap, v = .slice (some ⟨b, off, none⟩) ss.length cap ∧ 0 < ss.length ∧ b < w.heap.size ∧ ∀ i, i < ss.length → w.cell? ⟨b, off + i, none⟩ = some (.string (ss.getD i ByteArray.empty))
set_option maxRecDepth 100000 in
theorem str_arg {H : Type} {enc : TypeId × Value → H} {W : World} {base : Nat} {v : Value} {d : DataW H} {p : List MemPlace}
    (hv : Value.okWide Tryz.prog W .any base 30 v) (h : DataW.Trod enc Tryz.prog W 0 (fun _ => true) true 30 v d p) (hlt : ∀ x ∈ p, x.block < W.heap.size) :
    ∃ ss : List ByteArray, StrArg W v ss ∧ ∀ s ∈ ss, s.size ≤ maxLen := by
  obtain ⟨a0, len, cap, rfl⟩ := okWide_slice Tryz.underlying30 hv
  obtain ⟨fuel, hf⟩ := h
  rcases open_strings Tryz.underlying30 Tryz.underlying9 cells_string hf with ⟨hcs, hx⟩ | ⟨a, len', cap', zs, hcs, _, hl, hm, hz, hx, hcell, hwz⟩
  · simp [Value.cells] at hcs
    obtain ⟨rfl, rfl, rfl⟩ := hcs
    exact ⟨[], Or.inl ⟨rfl, rfl⟩, fun n hn => by cases hn⟩
  · simp [Value.cells] at hcs
    obtain ⟨rfl, rfl, rfl⟩ := hcs
    simp only [Prod.mk.injEq] at hx
    obtain ⟨rfl, rfl⟩ := hx
    simp only [if_true] at hz
    have hlen : (zs.take len).length = len := by rw [List.length_take]; omega
    refine ⟨zs.take len, Or.inr ?_, fun n hn => hwz n (List.mem_of_mem_take hn)⟩
    by_cases h0 : len = 0
    · subst h0
      exact Or.inl ⟨a, cap, rfl, by simp⟩
    · obtain ⟨b, off, spot⟩ := a
      have hspot : spot = none := by simpa [Addr.add] using World.cell?_spot (hcell 0 (by omega))
      subst hspot
      have hbW : b < W.heap.size := hlt (.cell b off) (MemPlace.mem_row.2 ⟨0, by omega, by simp⟩)
      refine Or.inr ⟨b, off, cap, by rw [hlen], by omega, hbW, fun i hi => ?_⟩
      rw [hlen] at hi
      have := hcell i (by omega)
      rw [add_plain] at this
      rw [this]
      congr 2
      simp [List.getD_eq_getElem?_getD, hi]
def StrF (ss : List ByteArray) : Nat → Value := fun i => .string (ss.getD i ByteArray.empty)
def BoolF (bs : List Bool) : Nat → Value := fun i => .bool (bs.getD i false)
theorem at_strArg {w : World} {v : Value} {ss : List ByteArray} (h : StrArg w v ss) : Cells.At w v (StrF ss) ss.length := by
  rcases h with ⟨rfl, rfl⟩ | ⟨a, cap, rfl, rfl⟩ | ⟨b, off, cap, rfl, h0, hb, hc⟩
  · exact ⟨none, 0, rfl, fun h => absurd h (by simp)⟩
  · exact ⟨some a, cap, rfl, fun h => absurd h (by simp)⟩
  · exact ⟨_, cap, rfl, fun _ => ⟨b, off, rfl, hb, hc⟩⟩
set_option maxRecDepth 100000 in
theorem strs_arg {H : Type} {enc : TypeId × Value → H} {W : World} {base : Nat} {v : Value} {d : DataW H} {p : List MemPlace}
    (hv : Value.okWide Tryz.prog W .any base 30 v) (h : DataW.Trod enc Tryz.prog W 0 (fun _ => true) true 30 v d p) (hlt : ∀ x ∈ p, x.block < W.heap.size) :
    ∃ ss : List ByteArray, Cells.At W v (StrF ss) ss.length ∧ ∀ s ∈ ss, s.size ≤ maxLen := by
  obtain ⟨ss, h1, h2⟩ := str_arg hv h hlt
  exact ⟨ss, at_strArg h1, h2⟩
set_option maxRecDepth 100000 in
theorem bools_arg {H : Type} {enc : TypeId × Value → H} {W : World} {base : Nat} {v : Value} {d : DataW H} {p : List MemPlace}
    (hv : Value.okWide Tryz.prog W .any base 31 v) (h : DataW.Trod enc Tryz.prog W 0 (fun _ => true) true 31 v d p) (hlt : ∀ x ∈ p, x.block < W.heap.size) :
    ∃ bs : List Bool, Cells.At W v (BoolF bs) bs.length ∧ ∀ b ∈ bs, True := by
  obtain ⟨a0, len, cap, rfl⟩ := okWide_slice Tryz.underlying31 hv
  obtain ⟨fuel, hf⟩ := h
  rcases DataW.trod_slice Tryz.underlying31 hf with ⟨hcs, hx⟩ | ⟨a, len', cap', elems, rest, n, _, hcs, hx, hb, hl, hm, hlen, hel, _, _⟩
  · simp [Value.cells] at hcs
    obtain ⟨rfl, rfl, rfl⟩ := hcs
    exact ⟨[], ⟨none, 0, rfl, fun h => absurd h (by simp)⟩, fun n hn => by cases hn⟩
  · simp [Value.cells] at hcs
    obtain ⟨rfl, rfl, rfl⟩ := hcs
    simp only [Prod.mk.injEq] at hx
    obtain ⟨rfl, rfl⟩ := hx
    rw [cells_bool] at hel hlt
    have each : ∀ i, i < len → ∃ b, W.cell? (a.add i) = some (.bool b) := fun i hi => by
      have h1 := hel i hi
      rw [List.getElem?_eq_getElem (by omega), Nat.mul_one, Option.bind_eq_some_iff] at h1
      obtain ⟨cs', hc, hy⟩ := h1
      obtain ⟨b, rfl, _⟩ := DataW.trod_bool Tryz.underlying4 hy
      exact ⟨b, cell_of_cells?_one hc⟩
    obtain ⟨f, hf'⟩ : ∃ f : Nat → Bool, ∀ i, i < len → W.cell? (a.add i) = some (.bool (f i)) :=
      ⟨fun i => if h : i < len then (each i h).choose else false, fun i hi => by simp only [dif_pos hi]; exact (each i hi).choose_spec⟩
    refine ⟨(List.range len).map f, ?_, fun _ _ => trivial⟩
    have hlr : ((List.range len).map f).length = len := by simp
    rw [hlr]
    refine ⟨some a, cap, rfl, fun h0 => ?_⟩
    obtain ⟨b, off, spot⟩ := a
    have hspot : spot = none := by simpa [Addr.add] using World.cell?_spot (hf' 0 h0)
    subst hspot
    refine ⟨b, off, rfl, hlt (.cell b off) (List.mem_append_left _ (MemPlace.mem_row.2 ⟨0, by omega, by simp⟩)), fun i hi => ?_⟩
    have := hf' i hi
    rw [add_plain] at this
    rw [this]
    unfold BoolF
    congr 2
    simp [List.getD_eq_getElem?_getD, hi]
end
open Go.RowKit Go.Deep
theorem info_strI : (Tryz.prog.info? 9).map (fun i => (i.zero, i.size, i.bytes)) = some (some (.string ByteArray.empty), 1, 16) := by kernel_rfl
theorem info_boolI : (Tryz.prog.info? 4).map (fun i => (i.zero, i.size, i.bytes)) = some (some (.bool false), 1, 1) := by kernel_rfl
set_option maxRecDepth 100000 in
set_option maxHeartbeats 2000000 in
theorem cloneS_any (zs : List ByteArray) (n : Nat) (v : Value) (hl : n ≤ 131072) (W : World) (hv : Cells.At W v (StrF zs) n) :
    Calls Tryz.prog 9 #[v] W fun e w' => (∃ v', e = .returned v' ∧ AtFrom W.heap.size w' v' (StrF zs) n) ∧ Below W.heap.size W w' := by
  obtain ⟨a, cap, rfl, hcc⟩ := hv
  have HC := Lib.hid hcc
  clear hcc
  have hnil := fun w a n c n' c' => Lib.run_eql_slice_nil (P := Tryz.prog) w 30 _ a n c n' c' Tryz.underlying30
  cases a with
  | none =>
    have h0 : n = 0 := by
      rcases Nat.eq_zero_or_pos n with h | h
      · exact h
      · obtain ⟨b, off, hx, _⟩ := HC.out h
        cases hx
    subst h0
    go_enter Tryz.func9, Tryz.ntmps9
    go_wp2
    go_ret
    exact ⟨⟨_, rfl, none, 0, rfl, fun h => absurd h (Nat.lt_irrefl _)⟩, Below.refl _ _⟩
  | some ad =>
    have hmk := fun w => run_make_row' (P := Tryz.prog) 30 9 (.string ByteArray.empty) 16 Tryz.underlying30 info_strI rfl .i64 .i64 n (by omega) (by omega) w
    have hS : Hid (Below W.heap.size W (W.alloc (.cells (madeCells #[.string ByteArray.empty] n) 9)) ∧ (W.alloc (.cells (madeCells #[.string ByteArray.empty] n) 9)).rowIs W.heap.size 9 n (Cells.fill (StrF zs) (.string ByteArray.empty) 0)) :=
      Lib.hid ⟨(Below.refl _ _).alloc (Nat.le_refl _) _, Cells.fill_start (World.rowIs_made W _ n _)⟩
    go_enter Tryz.func9, Tryz.ntmps9
    go_wp2
    go_loopw [4] (fun i wr => ∃ k : Nat, k ≤ n ∧ i = .int .i64 k ∧ Hid (Below W.heap.size W wr ∧ wr.rowIs W.heap.size 9 n (Cells.fill (StrF zs) (.string ByteArray.empty) k))) (fun i _ => n - (intOf i).toNat)
    case atStart => exact ⟨0, Nat.zero_le _, rfl, hS⟩
    case round =>
      obtain ⟨k, hk, rfl, HR⟩ := hrel
      by_cases hlt : k < n
      · obtain ⟨b, off, hx, hbl, hcell⟩ := HC.out (by omega)
        cases hx
        have hcx0 : wr.cell? ⟨b, off + k, none⟩ = some (StrF zs k) := (HR.out.1.cell (p := ⟨b, off + k, none⟩) hbl).trans (hcell k hlt)
        obtain ⟨z, hz⟩ : ∃ z, zs.getD k ByteArray.empty = z := ⟨_, rfl⟩
        have hcx : wr.cell? ⟨b, off + k, none⟩ = some (.string z) := by rw [hcx0, ← hz]; rfl
        clear hcell hcx0
        have HZ := Lib.hid hz
        clear hz
        have hco := Cells.fill_old HR.out.2 hlt (Nat.lt_irrefl _)
        have hfo := HR.out.2.frozen k
        go_wp2
        go_roundw
        case rel => exact ⟨k + 1, by omega, by go_num, Lib.hid ⟨HR.out.1.setCell (Nat.le_refl _) _, Cells.fill_set HR.out.2 _ (by unfold StrF; rw [HZ.out])⟩⟩
        case measure => simp [intOf]; omega
      · obtain rfl : k = n := by omega
        go_wp2
        go_ret
        exact ⟨⟨_, rfl, _, k, rfl, fun _ => ⟨W.heap.size, 0, rfl, Nat.le_refl _, HR.out.2.lt, fun i hi => by rw [Nat.zero_add]; exact Cells.fill_cell HR.out.2 hi hi⟩⟩, HR.out.1⟩
set_option maxRecDepth 100000 in
set_option maxHeartbeats 2000000 in
theorem cloneB_any (zs : List Bool) (n : Nat) (v : Value) (hl : n ≤ 131072) (W : World) (hv : Cells.At W v (BoolF zs) n) :
    Calls Tryz.prog 10 #[v] W fun e w' => (∃ v', e = .returned v' ∧ AtFrom W.heap.size w' v' (BoolF zs) n) ∧ Below W.heap.size W w' := by
  obtain ⟨a, cap, rfl, hcc⟩ := hv
  have HC := Lib.hid hcc
  clear hcc
  have hnil := fun w a n c n' c' => Lib.run_eql_slice_nil (P := Tryz.prog) w 31 _ a n c n' c' Tryz.underlying31
  cases a with
  | none =>
    have h0 : n = 0 := by
      rcases Nat.eq_zero_or_pos n with h | h
      · exact h
      · obtain ⟨b, off, hx, _⟩ := HC.out h
        cases hx
    subst h0
    go_enter Tryz.func10, Tryz.ntmps10
    go_wp2
    go_ret
    exact ⟨⟨_, rfl, none, 0, rfl, fun h => absurd h (Nat.lt_irrefl _)⟩, Below.refl _ _⟩
  | some ad =>
    have hmk := fun w => run_make_row' (P := Tryz.prog) 31 4 (.bool false) 1 Tryz.underlying31 info_boolI rfl .i64 .i64 n (by omega) (by omega) w
    have hS : Hid (Below W.heap.size W (W.alloc (.cells (madeCells #[.bool false] n) 4)) ∧ (W.alloc (.cells (madeCells #[.bool false] n) 4)).rowIs W.heap.size 4 n (Cells.fill (BoolF zs) (.bool false) 0)) :=
      Lib.hid ⟨(Below.refl _ _).alloc (Nat.le_refl _) _, Cells.fill_start (World.rowIs_made W _ n _)⟩
    go_enter Tryz.func10, Tryz.ntmps10
    go_wp2
    go_loopw [4] (fun i wr => ∃ k : Nat, k ≤ n ∧ i = .int .i64 k ∧ Hid (Below W.heap.size W wr ∧ wr.rowIs W.heap.size 4 n (Cells.fill (BoolF zs) (.bool false) k))) (fun i _ => n - (intOf i).toNat)
    case atStart => exact ⟨0, Nat.zero_le _, rfl, hS⟩
    case round =>
      obtain ⟨k, hk, rfl, HR⟩ := hrel
      by_cases hlt : k < n
      · obtain ⟨b, off, hx, hbl, hcell⟩ := HC.out (by omega)
        cases hx
        have hcx0 : wr.cell? ⟨b, off + k, none⟩ = some (BoolF zs k) := (HR.out.1.cell (p := ⟨b, off + k, none⟩) hbl).trans (hcell k hlt)
        obtain ⟨z, hz⟩ : ∃ z, zs.getD k false = z := ⟨_, rfl⟩
        have hcx : wr.cell? ⟨b, off + k, none⟩ = some (.bool z) := by rw [hcx0, ← hz]; rfl
        clear hcell hcx0
        have HZ := Lib.hid hz
        clear hz
        have hco := Cells.fill_old HR.out.2 hlt (Nat.lt_irrefl _)
        have hfo := HR.out.2.frozen k
        go_wp2
        go_roundw
        case rel => exact ⟨k + 1, by omega, by go_num, Lib.hid ⟨HR.out.1.setCell (Nat.le_refl _) _, Cells.fill_set HR.out.2 _ (by unfold BoolF; rw [HZ.out])⟩⟩
        case measure => simp [intOf]; omega
      · obtain rfl : k = n := by omega
        go_wp2
        go_ret
        exact ⟨⟨_, rfl, _, k, rfl, fun _ => ⟨W.heap.size, 0, rfl, Nat.le_refl _, HR.out.2.lt, fun i hi => by rw [Nat.zero_add]; exact Cells.fill_cell HR.out.2 hi hi⟩⟩, HR.out.1⟩
end Go.Proofs.YtonbnmpleecegabGreatDoor
