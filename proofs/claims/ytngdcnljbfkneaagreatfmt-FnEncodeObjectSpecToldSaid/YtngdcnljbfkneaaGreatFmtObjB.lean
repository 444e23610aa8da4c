/- Contracts: sort.Slice over the entries of a map; encodeObject over a map of ints. -/
import Derived.Test.YtngdcnljbfkneaaGreatFmtObjA
import Derived.Test.YtngdcnljbfkneaaGreatFmtShelfS
import Derived.Test.YtngdcnljbfkneaaGreatFmtIntK
import Derived.Shelf.SlSortFuncK.WholeK
import Derived.Shelf.GgSortFunc.Tiny
import Derived.Deep.LoopGhost
namespace Go.Proofs.YtngdcnljbfkneaaGreatFmt
open Go.RowKit Go.Deep Go.Lib Go.Sort Go.ObjP Go.Shelf

noncomputable def svT : TypeInfo := (Tryz.prog.info? 53).get (by kernel_rfl)
noncomputable def svE : TypeInfo := (Tryz.prog.info? 55).get (by kernel_rfl)
theorem svK9 (n : Nat) (h2 : 2 ≤ n) : Lib.swapperK n svE 25 = 9 := by
  have a : svE.hasPointers = true := by kernel_rfl
  have b : (svE.bytes == 8) = false := by kernel_rfl
  have c : (n == 0) = false := by simp; omega
  have d : (n == 1) = false := by simp; omega
  simp [Lib.swapperK, a, b, c, d]
def SortEnd (blk m : Nat) (d : Array KV) (w : World) (e : Ending) (w' : World) : Prop :=
  e = .returned (.tuple #[]) ∧ ∃ d' : Array KV, d'.size = m ∧ d'.toList.Perm d.toList ∧ SortedIn ltKey 0 m d' ∧ HoldsK encK 2 w' blk 0 d' ∧ Only blk w w' ∧ ∃ c fz, w'.heap[blk]? = some (.cells c 55 fz)
theorem sortK_any (m : Nat) (d : Array KV) (hd : d.size = m) (hm : m ≤ 4096) (blk Bs : Nat) (w : World) (hH : HoldsK encK 2 w blk 0 d) (hblk : blk < w.heap.size)
    (hBs : w.cell? ⟨Bs, 0, none⟩ = some (.slice (some ⟨blk, 0, none⟩) m m)) (hB1 : Bs < w.heap.size) (hB2 : Bs ≠ blk) (htag : ∃ c fz, w.heap[blk]? = some (.cells c 55 fz)) :
    Calls Tryz.prog 20 #[.iface 53 (.slice (some ⟨blk, 0, none⟩) m m), .func (.func 21) #[] #[.pointer (some ⟨Bs, 0, none⟩)]] w (SortEnd blk m d w) := by
  subst hd
  by_cases h2 : 2 ≤ d.size
  · have hless : LessReadsK Tryz.prog 21 #[.pointer (some ⟨Bs, 0, none⟩)] encK 2 ltKey blk 0 d.size w := by
      intro q os dk hs i j hi hj
      have e : sortWorldK encK 2 w blk 0 q dk os = putRowK encK 2 (grow (Sort.ahead w q) os) blk 0 dk := by
        unfold sortWorldK; rw [putRowK_grow _ _ (Sort.ahead w q) _ blk 0 _ hblk]
      have hHg : HoldsK encK 2 (grow (Sort.ahead w q) os) blk 0 d := holdsK_grow _ _ _ _ blk 0 d hblk (holdsK_ahead _ _ _ _ _ _ _ hH)
      refine lessK blk 0 d.size Bs d.size _ (fun t => dk[t]!.1) ?_ (fun t ht => ?_) i j hi hj (by omega)
      · rw [e, cell?_putRowK_other _ _ _ blk 0 dk _ (by exact hB2), cell?_grow _ _ _ (by exact hB1)]; exact hBs
      · rw [e]; exact ((holdsK_putRowK _ _ _ blk 0 d dk hHg hs).cell (i := t) (c := 0) (by omega) (by omega)).1
    refine (Any.sort_Slice_cells_sorted Tryz.sv6 53 55 svT svE (by kernel_rfl) (by kernel_rfl) (by kernel_rfl) (by kernel_rfl) 25 (fun _ => by kernel_rfl) encK 2 (fun _ => rfl) (by kernel_rfl) (fun _ => by kernel_rfl)
      (fun x v hv => by simp [encK] at hv; rcases hv with rfl | rfl <;> rfl) ltKey swo_ltKey 21 _
      (enters_of Tryz.func21 (by kernel_rfl) rfl) blk 0 d.size d h2 (by omega) 46 (by rw [svK9 _ h2]; kernel_rfl) false
      (fun args W => run_callFunc_extern Tryz.func46 (by kernel_rfl) (by kernel_rfl) (by kernel_rfl) (e := Extern.ReflectliteSwapper.swap false) (by kernel_rfl) args W) w hless hH hblk).mono ?_
    rintro e w' ⟨rfl, d', n, os, hp, hs, rfl⟩
    have hsz : d'.size = d.size := hp.1
    have hpp := hp.2.2
    rw [show d'.extract 0 d.size = d' from by rw [← hsz]; simp, show d.extract 0 d.size = d from by simp] at hpp
    have h1 : HoldsK encK 2 (putRowK encK 2 (Sort.ahead w n) blk 0 d') blk 0 d' := holdsK_putRowK _ _ _ blk 0 d d' (holdsK_ahead _ _ _ _ _ _ _ hH) hsz
    have h3 : blk < (putRowK encK 2 (Sort.ahead w n) blk 0 d').heap.size := by simpa [putRowK, putRow, mapBlock, Sort.ahead] using hblk
    obtain ⟨c, fz, htg⟩ := htag
    exact ⟨rfl, d', hsz, hpp, hs, holdsK_grow _ _ _ os blk 0 d' h3 h1, only_sorted w blk n d' os, putCells id 0 (flatK encK 2 d') c, fz, by
      rw [heap_grow_old _ _ h3]
      simp [putRowK, putRow, mapBlock, Sort.ahead, Array.getElem?_modify, htg, onCells]⟩
  · have fin : ∀ e w', (e = .returned (.tuple #[]) ∧ ∃ os, w' = grow w os) → SortEnd blk d.size d w e w' := by
      rintro e w' ⟨rfl, os, rfl⟩
      exact ⟨rfl, d, rfl, List.Perm.refl _, fun i j h1 h3 h4 => absurd h3 (by omega), holdsK_grow _ _ _ os blk 0 d hblk hH, only_grow w blk os, by rw [heap_grow_old _ _ hblk]; exact htag⟩
    obtain ⟨n, hn⟩ : ∃ n, d.size = n := ⟨_, rfl⟩
    rw [hn] at h2 fin ⊢
    have h01 : n = 0 ∨ n = 1 := by omega
    rcases h01 with rfl | rfl
    · exact (Any.sort_Slice_tiny Tryz.sv6 53 55 svT svE (by kernel_rfl) (by kernel_rfl) (by kernel_rfl) (by kernel_rfl) 25 (fun _ => by kernel_rfl) (some ⟨blk, 0, none⟩) 0 0 (by omega) 38 (by kernel_rfl) (.func 21) #[] _ w).mono fin
    · exact (Any.sort_Slice_tiny Tryz.sv6 53 55 svT svE (by kernel_rfl) (by kernel_rfl) (by kernel_rfl) (by kernel_rfl) 25 (fun _ => by kernel_rfl) (some ⟨blk, 0, none⟩) 1 1 (by omega) 39 (by kernel_rfl) (.func 21) #[] _ w).mono fin

/-! ### encodeObject -/
def ent (p : KV) : List UInt8 := Quo.quote p.1 ++ (58 :: Lib.itoa p.2)
def objL (l : List KV) : List UInt8 := 123 :: (Esc.glue (l.map ent) [44] l.length ++ [125])
theorem run_make2 (w : World) (m : Nat) (hm : m ≤ 4096) : (Instr.makeSlice 53 (.int .i64 (m : Int)) (.int .i64 (m : Int))).run Tryz.prog w = .ok (.slice (some ⟨w.heap.size, 0, none⟩) m m) (w.alloc (.cells (madeCells #[.string ByteArray.empty, .nilIface] (m * 2)) 55)) := by
  have hi : Tryz.prog.info? 55 = some svE := by kernel_rfl
  have hz : svE.zero = some (.agg #[.string ByteArray.empty, .nilIface]) := by kernel_rfl
  have h2 : svE.size = 2 := by kernel_rfl
  have hb : svE.bytes = 32 := by kernel_rfl
  have hr := run_make (P := Tryz.prog) w 53 55 svE _ Tryz.underlying53 hi hz .i64 .i64 m m (by omega) (Int.le_refl _) (by rw [hb]; omega) (by omega)
  simp only [Int.toNat_natCast, h2] at hr
  exact hr
theorem made2 (w : World) (m : Nat) (f : Key → Option Int) : (w.alloc (.cells (madeCells #[.string ByteArray.empty, .nilIface] (m * 2)) 55)).rowIs w.heap.size 55 (m * 2) (kvF f []) := by
  refine kvF_start f ⟨_, blk_alloc_new _ _, size_madeCells _ _, fun i hi => ?_⟩
  simp [madeCells, hi]

theorem EncAt.over {B b eb : Nat} {l : List UInt8} {W w w' : World} (h : EncAt B b eb l w w') (k : Keep B W w) : EncAt B b eb l W w' := ⟨h.1, h.2.1, k.trans h.2.2⟩
/-- The range over the map under way: what is to come, what has come, the row that is filled. -/
structure ObjSt (f : Key → Option Int) (D : DataW Unit) (mb r R n m : Nat) (w1 wr : World) (left : Lit → Bool) (cnt : Nat) (ss : List Key) : Prop where
  rg : wr.ranges Tryz.prog 9 rInt mb r n D left cnt
  le : ss.length + cnt ≤ m
  col : Collected D left ss
  row : wr.rowIs R 55 (m * 2) (kvF f ss)
  box : wr.cell? ⟨R + 1, 0, none⟩ = some (.slice (some ⟨R, 0, none⟩) m m)
  bw : Below R w1 wr
  bx : R + 1 < wr.heap.size
theorem grown_cell (w : World) (p : Addr) (v : Value) : w.grownBy (w.setCell p v) (some p.block) := ⟨rfl, rfl, rfl, by simp, fun k _ hne => blk_setCell_other _ _ _ _ (fun e => hne (by rw [e]))⟩
theorem ObjSt.step {f : Key → Option Int} {D : DataW Unit} {mb r R n m : Nat} {w1 wr w2 : World} {left : Lit → Bool} {cnt cnt2 : Nat} {ss : List Key} {x : Key} {c : Int} {yd : DataW Unit} (h : ObjSt f D mb r R n m w1 wr left cnt ss) (hr : r = R + 2) (_hmb : mb < R) (hR : w1.heap.size = R)
    (hg : wr.grownBy w2 (some r)) (hrg : w2.ranges Tryz.prog 9 rInt mb r n D (fun z => left z && !z.sameKey (.string x)) cnt2) (hlt : cnt2 < cnt) (hlk : left (.string x) = true) (hat : ∀ zd, D.atKey (.string x) zd = yd) (hx : f x = some c) (k : Nat) (hk : ss.length = k) :
    ObjSt f D mb r R n m w1 ((w2.setCell ⟨R, k * 2, none⟩ (encStr x)).setCell ⟨R, k * 2 + 1, none⟩ (.iface 3 (.int .i64 c))) (fun z => left z && !z.sameKey (.string x)) cnt2 (ss ++ [x]) := by
  subst hk
  have hbx := h.bx
  have row2 := h.row.of_block (hg.block R (by omega) (fun e => by injection e; omega))
  have box2 : w2.cell? ⟨R + 1, 0, none⟩ = some (.slice (some ⟨R, 0, none⟩) m m) := (World.cell?_of_block (a := ⟨R + 1, 0, none⟩) (hg.block (R + 1) hbx (fun e => by injection e; omega))).trans h.box
  have bw2 : Below R w1 w2 := h.bw.grown hg (by rw [← hR]; exact h.bw.size) (fun j hj => by cases hj; omega)
  refine ⟨?_, ?_, h.col.step hlk hat, kvF_step row2 hx, ?_, ?_, ?_⟩
  · exact (hrg.kept (grown_cell w2 ⟨R, ss.length * 2, none⟩ _) (fun e => by injection e with e; simp at e; omega) (fun e => by injection e with e; simp at e; omega)).kept (grown_cell _ ⟨R, ss.length * 2 + 1, none⟩ _) (fun e => by injection e with e; simp at e; omega) (fun e => by injection e with e; simp at e; omega)
  · have := h.le
    simp
    omega
  · rw [World.cell?_of_block (a := ⟨R + 1, 0, none⟩) (blk_setCell_other _ _ _ _ (by simp)), World.cell?_of_block (a := ⟨R + 1, 0, none⟩) (blk_setCell_other _ _ _ _ (by simp))]
    exact box2
  · exact (bw2.setCell (Nat.le_refl _) _).setCell (Nat.le_refl _) _
  · have := hg.size
    simp
    omega
theorem ObjSt.full {f : Key → Option Int} {D : DataW Unit} {mb r R n m : Nat} {w1 wr : World} {left : Lit → Bool} {cnt : Nat} {ss : List Key} (h : ObjSt f D mb r R n m w1 wr left cnt ss) (ht : Tells D f) (hm : Go.Maps.size D = m) (hl0 : ∀ kl, left kl = false) :
    ss.length = m ∧ ss.Nodup ∧ ∀ k, k ∈ ss ↔ f k ≠ none := by
  refine ⟨?_, h.col.1, fun k => ?_⟩
  · have hp := (h.col.perm h.rg.owns keyLaw Tryz.underlying9 hl0).length_eq
    rw [hp, ← hm]
    obtain ⟨es, rfl⟩ := h.rg.owns.isMap
    simp [strKeys, Go.Maps.size]
  · rw [h.col.2 k, hl0, ht.has]
    simp
theorem sorted_obj {f : Key → Option Int} {ss : List Key} {m : Nat} (hnd : ss.Nodup) (hmem : ∀ k, k ∈ ss ↔ f k ≠ none) {d : Array KV} (hd : d.size = m) (hp : d.toList.Perm (ents f ss).toList) (hs : SortedIn ltKey 0 m d) : IsObj f d.toList := by
  refine isObj_of_sorted f ss hnd hmem d.toList (by unfold ents at hp; simpa using hp) fun i j hi hj hij => ?_
  have hi' : i < d.size := by simpa using hi
  have hj' : j < d.size := by simpa using hj
  have := hs i j (Nat.zero_le _) hij (by omega)
  rw [getElem!_pos d i hi', getElem!_pos d j hj'] at this
  simp only [ltKey, ltStr, decide_eq_false_iff_not] at this
  simpa using this
theorem ent_len {p : KV} (h : p.1.length ≤ 1048576) (h2 : In64 p.2) : (ent p).length ≤ 7000000 := by
  have h1 := Quo.quote_len p.1
  have h3 := itoa_len h2
  unfold ent
  rw [List.length_append, List.length_cons]
  omega
theorem glue_ents (l : List KV) (k : Nat) (h : k < l.length) : Esc.glue (l.map ent) [44] (k + 1) = Esc.glue (l.map ent) [44] k ++ ((if k = 0 then [] else [44]) ++ ent (l[k])) := by
  show Esc.glue (l.map ent) [44] k ++ ((if k = 0 then [] else [44]) ++ (l.map ent).getD k []) = _
  rw [List.getD_eq_getElem?_getD, List.getElem?_map, List.getElem?_eq_getElem h]
  rfl
theorem glue_ents_len (l : List KV) (hg : ∀ p ∈ l, p.1.length ≤ 1048576 ∧ In64 p.2) : ∀ k, k ≤ l.length → (Esc.glue (l.map ent) [44] k).length ≤ 7000001 * k
  | 0, _ => Nat.zero_le _
  | k + 1, h => by
    have h1 := glue_ents_len l hg k (by omega)
    have hm := hg _ (List.getElem_mem (show k < l.length by omega))
    have h2 := ent_len hm.1 hm.2
    have h3 : (if k = 0 then ([] : List UInt8) else [44]).length ≤ 1 := by split <;> simp
    rw [glue_ents l k (by omega), List.length_append, List.length_append]
    omega

set_option maxRecDepth 100000 in
set_option maxHeartbeats 4000000 in
theorem encodeObject_any (f : Key → Option Int) (mb n B b eb : Nat) (W : World) (hB : B ≤ W.heap.size) (hBe : B ≤ eb) (hne : eb ≠ b) (hmb : mb < B) (hnb : n ≤ 4096) (hm : MapIs W mb n f) (hf : ∀ k v, f k = some v → k.length ≤ 1048576 ∧ In64 v)
    (h : EncAt B b eb [] W W) (hdr : DrBelow B W) (htab : Lib.TabBelow Tryz.prog B W "internal/strconv.uint64pow10" .u64 Lib.pow10Tab) (l : List KV) (hl : IsObj f l) :
    Calls Tryz.prog 16 #[.pointer (some ⟨eb, 0, none⟩), .map (some mb)] W fun e w' => e = .returned (.tuple #[]) ∧ EncAt B b eb (objL l) W w' := by
  obtain ⟨D, hown, ht⟩ := hm
  obtain ⟨m, hms⟩ : ∃ m, Go.Maps.size D = m := ⟨_, rfl⟩
  have hmn : m ≤ 4096 := Nat.le_trans (hms ▸ hown.size_le) hnb
  have HOWN := Lib.hid hown
  have HT := Lib.hid ht
  have HF := Lib.hid hf
  have HDR := Lib.hid hdr
  have HTAB := Lib.hid htab
  have HL := Lib.hid hl
  have HMS := Lib.hid hms
  have H0 := Lib.hid (encAt_byte h 123 123 rfl (by decide) hB hne)
  have hw0 := h.2.1.writer
  have hmk := fun w => run_make2 w m hmn
  clear hown ht hf hdr htab hl h hms
  go_enter Tryz.func16, Tryz.ntmps16
  go_wp2_with (first
    | (go_at_call 256; refine H0.out.mono ?_; rintro e w1 ⟨rfl, h1⟩; have hown1 := ownsMap_kept HOWN.out (h1.2.2.block mb hmb); have HOWN1 := Lib.hid hown1; have H1 := Lib.hid h1; clear hown1 h1)
    | (at_len; refine wpList_len_own _ rfl _ 36 rfl 9 20 Tryz.underlying36 rInt mb n D rfl HOWN1.out ?_; rw [HMS.out])
    | (at_range; refine wpList_range_own _ rfl _ 36 rfl 9 20 keyLaw Tryz.underlying36 rInt mb n D rfl ((HOWN1.out.alloc _).alloc _) ?_; intro w0 hrg0 hg0 hs0))
  go_frame
  obtain ⟨R, hR⟩ : ∃ R, w1.heap.size = R := ⟨_, rfl⟩
  have hmbR : mb < R := by rw [← hR]; exact HOWN1.out.lt
  obtain ⟨r, hr⟩ : ∃ r, ((w1.alloc (.cells (madeCells #[.string ByteArray.empty, .nilIface] (m * 2)) 55)).alloc (.cells #[.slice (some ⟨w1.heap.size, 0, none⟩) m m] 53)).heap.size = r := ⟨_, rfl⟩
  have hrR : r = R + 2 := by rw [← hr, ← hR, Go.Deep.nblk_alloc, Go.Deep.nblk_alloc]
  have hS0 : Hid (ObjSt f D mb r R n m w1 w0 (Go.Maps.has D) m []) := by
    subst hR
    refine Lib.hid ⟨?_, by simp, Collected.start D, ?_, ?_, ?_, ?_⟩
    · have e := hrg0
      rw [hr, HMS.out] at e
      exact e
    · exact ((made2 w1 m f).alloc _).of_block (hg0.block _ ((made2 w1 m f).alloc _).lt (by simp))
    · rw [World.cell?_of_block (a := ⟨w1.heap.size + 1, 0, none⟩) (hg0.block (w1.heap.size + 1) (by rw [Go.Deep.nblk_alloc, Go.Deep.nblk_alloc]; omega) (by simp))]
      rw [← Go.Deep.nblk_alloc w1 (.cells (madeCells #[.string ByteArray.empty, .nilIface] (m * 2)) 55)]
      exact Lib.cell_of_heap (heap_alloc_new _ _) 0
    · exact (((Below.refl _ _).alloc (Nat.le_refl _) _).alloc (by rw [Go.Deep.nblk_alloc]; omega) _).grown hg0 (by rw [Go.Deep.nblk_alloc, Go.Deep.nblk_alloc]; omega) (fun j hj => by cases hj)
    · rw [hs0, Go.Deep.nblk_alloc, Go.Deep.nblk_alloc]; omega
  rw [hr, hR]
  clear hrg0 hg0 hs0 hr
  have HR0 := Lib.hid hrR
  have HRW := Lib.hid hR
  have hrn : ¬ R = r := by omega
  have hrn2 : ¬ R + 1 = r := by omega
  clear hrR hR
  go_loopw [5] (fun i wr => ∃ (left : Lit → Bool) (cnt : Nat) (ss : List Key), i = .int .i64 (ss.length : Nat) ∧ Hid (ObjSt f D mb r R n m w1 wr left cnt ss)) (fun _ wr => wr.rangeLeft mb r)
  case atStart => exact ⟨_, _, [], rfl, hS0⟩
  case round =>
    obtain ⟨left, cnt, ss, rfl, HR⟩ := hrel
    go_wp2_with (first | (at_next; refine wpList_next_ranges _ rfl _ rfl 9 keyLaw rInt encStr (fun a => Value.iface 3 (.int .i64 a)) (fun key kl hk => by obtain ⟨x, hx, _⟩ := Go.Maps.keyOf_str Tryz.underlying9 hk; exact ⟨x, hx⟩) (fun v y hv => by obtain ⟨c, rfl, _⟩ := rInt_inv hv; exact ⟨c, rfl⟩) mb r n _ _ _ rfl HR.out.rg ?_ ?_))
    · intro hc0 hl0
      have hfull := HR.out.full HT.out HMS.out hl0
      have HOBJ : Hid (∀ d : Array KV, d.size = m → d.toList.Perm (ents f ss).toList → SortedIn ltKey 0 m d → d.toList = l) := Lib.hid fun d hd hp hs => (sorted_obj hfull.2.1 hfull.2.2 hd hp hs).unique HL.out
      have HSORT := Lib.hid (sortK_any m (ents f ss) (by unfold ents; simp [hfull.1]) hmn R (R + 1) wr (holdsK_row HR.out.row hfull.1) (by have := HR.out.bx; omega) HR.out.box HR.out.bx (by omega) (by obtain ⟨c, hc, _⟩ := HR.out.row; exact ⟨c, _, hc⟩))
      have hbox := HR.out.box
      have hmi := fun x w => run_makeInterface (P := Tryz.prog) w 53 x (by kernel_rfl)
      clear hfull hc0 hl0
      go_wp2_with (go_at_call 20; refine HSORT.out.mono ?_; rintro e w3 ⟨rfl, d', hd', hp', hs', hh', ho', ht'⟩; have hbox3 : w3.cell? ⟨R + 1, 0, none⟩ = some (.slice (some ⟨R, 0, none⟩) m m) := (ho'.cell (p := ⟨R + 1, 0, none⟩) HR.out.bx (by simp)).trans hbox)
      have hdl := HOBJ.out d' hd' hp' hs'
      have hb3 : Below w1.heap.size w1 w3 := by rw [HRW.out]; exact HR.out.bw.trans (ho'.below (Nat.le_refl _) (by have := HR.out.bx; omega))
      have HE3 : Hid (EncAt B b eb [123] W w3) := Lib.hid (H1.out.later hb3 hB hne)
      have HROW3 : Hid (∀ k, k < m → w3.cell? ⟨R, k * 2, none⟩ = some (encStr (d'[k]!).1) ∧ w3.cell? ⟨R, k * 2 + 1, none⟩ = some (.iface 3 (.int .i64 (d'[k]!).2))) := Lib.hid fun k hk => by
        have h0 := (hh'.cell (i := k) (c := 0) (by omega) (by omega)).1
        have h1 := (hh'.cell (i := k) (c := 1) (by omega) (by omega)).1
        rw [Nat.zero_add] at h0 h1
        exact ⟨h0, h1⟩
      have HTAG := Lib.hid ht'
      have HPK : Hid (∀ k (hk : k < l.length), d'[k]! = l[k]) := Lib.hid fun k hk => by
        have hk' : k < d'.size := by rw [← hdl] at hk; simpa using hk
        rw [getElem!_pos d' k hk']
        simp only [← hdl, Array.getElem_toList]
      have HLM : Hid (l.length = m) := Lib.hid (by rw [← hdl, Array.length_toList, hd'])
      have HFL : Hid (∀ p ∈ l, p.1.length ≤ 1048576 ∧ In64 p.2) := Lib.hid fun p hp => HF.out p.1 p.2 ((HL.out.2 p).1 hp)
      have hB3 : B ≤ w3.heap.size := Nat.le_trans hB HE3.out.2.2.size
      have HS3 : Hid (EncAt B b eb (123 :: Esc.glue (l.map ent) [44] 0) w3 w3) := Lib.hid (show EncAt B b eb [123] w3 w3 from ⟨HE3.out.1, HE3.out.2.1, Keep.refl _ _⟩)
      clear hd' hp' hs' hh' ho' ht' hdl hb3 hbox
      go_loopw [39] (fun v wr => ∃ k : Nat, k ≤ m ∧ v = .int .i64 k ∧ Hid (EncAt B b eb (123 :: Esc.glue (l.map ent) [44] k) w3 wr)) (fun v _ => m - (RowKit.intOf v).toNat)
      case atStart => exact ⟨0, Nat.zero_le _, rfl, HS3⟩
      case round =>
        obtain ⟨k, hk, rfl, HR⟩ := hrel
        have hwr := HR.out.cell
        by_cases hlt : k < m
        · have hkl : k < l.length := by rw [HLM.out]; exact hlt
          have hblk : wr.heap[R]? = w3.heap[R]? := by
            obtain ⟨c, fz, h⟩ := HTAG.out
            rw [h]
            exact HR.out.2.2.kv R c fz h
          have hc0 := (World.cell?_of_block (a := ⟨R, k * 2, none⟩) hblk).trans (HROW3.out k hlt).1
          have hc1 := (World.cell?_of_block (a := ⟨R, k * 2 + 1, none⟩) hblk).trans (HROW3.out k hlt).2
          rw [HPK.out k hkl] at hc0 hc1
          have hgs := glue_ents l k hkl
          have hgl := glue_ents_len l HFL.out k (by omega)
          have hzp := HFL.out _ (List.getElem_mem hkl)
          obtain ⟨p, hp⟩ : ∃ p, l[k] = p := ⟨_, rfl⟩
          rw [hp] at hc0 hc1 hgs hzp
          obtain ⟨z, hz⟩ : ∃ z : ByteArray, ⟨p.1.toArray⟩ = z := ⟨_, rfl⟩
          have hz1 : p.1 = z.data.toList := by rw [← hz]
          unfold encStr at hc0
          rw [hz] at hc0
          obtain ⟨y, hy⟩ : ∃ y, p.2 = y := ⟨_, rfl⟩
          rw [hz1] at hzp
          rw [hy] at hc1 hzp
          have hpe : ent p = Quo.quote z.data.toList ++ (58 :: Lib.itoa y) := by unfold ent; rw [hz1, hy]
          rw [hpe] at hgs
          have HZP : Hid (z.size ≤ 1048576 ∧ In64 y) := Lib.hid hzp
          have HQL : Hid ((Quo.quote z.data.toList).length ≤ 6291458) := Lib.hid (by have := Quo.quote_len z.data.toList; have := hzp.1; omega)
          clear hz hz1 hy hp hzp hpe hblk
          obtain ⟨nb, hnb2⟩ : ∃ nb, wr.heap.size = nb := ⟨_, rfl⟩
          obtain ⟨w4, hw4⟩ : ∃ w4, wr.alloc (.cells #[.string z, .iface 3 (.int .i64 y)] 55) = w4 := ⟨_, rfl⟩
          have hK4 : Keep B wr w4 := by rw [← hw4]; exact (Keep.refl _ _).later ((Below.refl _ _).alloc (Nat.le_refl _) _) (Nat.le_trans hB3 HR.out.2.2.size)
          have HK4 : Hid (Keep B w3 w4) := Lib.hid (HR.out.2.2.trans hK4)
          have HB4 : Hid (∀ w', Keep B w4 w' → w'.cell? ⟨nb, 0, none⟩ = some (.string z) ∧ w'.cell? ⟨nb, 1, none⟩ = some (.iface 3 (.int .i64 y))) := Lib.hid fun w' hw => by
            have h0 : w4.heap[nb]? = some (.cells #[.string z, .iface 3 (.int .i64 y)] 55 (0, 0)) := by rw [← hw4, ← hnb2]; exact heap_alloc_new _ _
            have h1 := hw.kv nb _ _ h0
            exact ⟨by rw [Lib.cell_of_heap h1]; rfl, by rw [Lib.cell_of_heap h1]; rfl⟩
          have HE4 : Hid (EncAt B b eb (123 :: Esc.glue (l.map ent) [44] k) w4 w4) := Lib.hid (by
            have := HR.out.later (show Below wr.heap.size wr w4 from by rw [← hw4]; exact (Below.refl _ _).alloc (Nat.le_refl _) _) hB3 hne
            exact ⟨this.1, this.2.1, Keep.refl _ _⟩)
          have hB4 : B ≤ w4.heap.size := Nat.le_trans hB3 HK4.out.size
          have HBW4 : Hid (Below B W w4) := Lib.hid (HE3.out.2.2.toBelow.trans HK4.out.toBelow)
          have HDR4 := Lib.hid (HDR.out.on HBW4.out)
          have HTAB4 := Lib.hid (HTAB.out.on HBW4.out)
          have hw4c := HE4.out.cell
          have c40 := (HB4.out _ (Keep.refl _ _)).1
          by_cases k0 : k = 0
          · obtain ⟨X, hX⟩ : ∃ X, 123 :: Esc.glue (l.map ent) [44] k = X := ⟨_, rfl⟩
            have HGS := Lib.hid (show 123 :: Esc.glue (l.map ent) [44] (k + 1) = X ++ (Quo.quote z.data.toList ++ (58 :: Lib.itoa y)) from by rw [hgs, if_pos k0, ← hX]; simp)
            have HLEN : Hid (X.length ≤ 100000000000) := Lib.hid (by rw [← hX, List.length_cons]; omega)
            rw [hX] at HE4
            have hk0 : ¬ ((0 : Int) < (k : Int)) := by omega
            clear hgs hX hgl k0
            go_wp2_with (go_at_call 22; refine (encString_any B b eb X z z.size rfl HZP.out.1 (by have h0 := HLEN.out; omega) w4 w4 hB4 hne HE4.out HDR4.out).mono ?_; rintro e w6 ⟨rfl, h6⟩; have H6 := Lib.hid h6; have hw6 := h6.cell; have c60 := (HB4.out _ h6.2.2).1; have c61 := (HB4.out _ h6.2.2).2; clear h6)
            go_wp2_with (go_at_call 256; refine (encAt_byte H6.out 58 58 rfl (by have h0 := HLEN.out; have h1 := HQL.out; rw [List.length_append]; omega) hB4 hne).mono ?_; rintro e w7 ⟨rfl, h7⟩; have H7 := Lib.hid h7; have hw7 := h7.cell; have c71 := (HB4.out _ h7.2.2).2; clear h7 c60 c61)
            go_wp2_with (go_at_call 23; refine (encAt_int H7.out y HZP.out.2.1 HZP.out.2.2 (by have h0 := HLEN.out; have h1 := HQL.out; rw [List.length_append, List.length_append, List.length_singleton]; omega) hB4 (Nat.le_trans hBe (Nat.le_refl _)) hne HTAB4.out).mono ?_; rintro e w8 ⟨rfl, h8⟩)
            have H8 : Hid (EncAt B b eb (123 :: Esc.glue (l.map ent) [44] (k + 1)) w3 w8) := Lib.hid (by
              rw [HGS.out]
              have := h8.over HK4.out
              rwa [List.append_assoc, List.append_assoc, List.singleton_append] at this)
            clear h8
            go_roundw
            case rel => exact ⟨k + 1, by omega, by go_num, H8⟩
            case measure => simp [RowKit.intOf]; omega
          · obtain ⟨X, hX⟩ : ∃ X, 123 :: Esc.glue (l.map ent) [44] k ++ [44] = X := ⟨_, rfl⟩
            have HGS := Lib.hid (show 123 :: Esc.glue (l.map ent) [44] (k + 1) = X ++ (Quo.quote z.data.toList ++ (58 :: Lib.itoa y)) from by rw [hgs, if_neg k0, ← hX]; simp)
            have HLEN : Hid (X.length ≤ 100000000000) := Lib.hid (by rw [← hX, List.length_append, List.length_cons, List.length_singleton]; omega)
            have HXE := Lib.hid hX
            have HGL : Hid ((123 :: Esc.glue (l.map ent) [44] k).length + 1 ≤ 140737488355328) := Lib.hid (by rw [List.length_cons]; omega)
            have hk0 : (0 : Int) < (k : Int) := by omega
            clear hgs hX hgl
            go_wp2_with (go_at_call 256; refine (encAt_byte HE4.out 44 44 rfl HGL.out hB4 hne).mono ?_; rintro e w5 ⟨rfl, h5⟩; have hw5 := h5.cell; have c50 := (HB4.out _ h5.2.2).1; have H5 := Lib.hid (HXE.out ▸ h5); clear h5)
            go_wp2_with (go_at_call 22; refine (encString_any B b eb X z z.size rfl HZP.out.1 (by have h0 := HLEN.out; omega) w4 w5 hB4 hne H5.out HDR4.out).mono ?_; rintro e w6 ⟨rfl, h6⟩; have H6 := Lib.hid h6; have hw6 := h6.cell; have c60 := (HB4.out _ h6.2.2).1; have c61 := (HB4.out _ h6.2.2).2; clear h6)
            go_wp2_with (go_at_call 256; refine (encAt_byte H6.out 58 58 rfl (by have h0 := HLEN.out; have h1 := HQL.out; rw [List.length_append]; omega) hB4 hne).mono ?_; rintro e w7 ⟨rfl, h7⟩; have H7 := Lib.hid h7; have hw7 := h7.cell; have c71 := (HB4.out _ h7.2.2).2; clear h7 c60 c61)
            go_wp2_with (go_at_call 23; refine (encAt_int H7.out y HZP.out.2.1 HZP.out.2.2 (by have h0 := HLEN.out; have h1 := HQL.out; rw [List.length_append, List.length_append, List.length_singleton]; omega) hB4 (Nat.le_trans hBe (Nat.le_refl _)) hne HTAB4.out).mono ?_; rintro e w8 ⟨rfl, h8⟩)
            have H8 : Hid (EncAt B b eb (123 :: Esc.glue (l.map ent) [44] (k + 1)) w3 w8) := Lib.hid (by
              rw [HGS.out]
              have := h8.over HK4.out
              rwa [List.append_assoc, List.append_assoc, List.singleton_append] at this)
            clear h8
            go_roundw
            case rel => exact ⟨k + 1, by omega, by go_num, H8⟩
            case measure => simp [RowKit.intOf]; omega
        · obtain rfl : m = k := by omega
          have hgl := glue_ents_len l HFL.out m (by rw [HLM.out]; exact Nat.le_refl _)
          have HE := Lib.hid (encAt_byte HR.out 125 125 rfl (by rw [List.length_cons]; omega) hB3 hne)
          go_wp2_with (go_at_call 256; refine HE.out.mono ?_; rintro e w2 ⟨rfl, h2⟩)
          go_returns
          refine ⟨rfl, ?_⟩
          have := h2.over HE3.out.2.2
          unfold objL
          rw [HLM.out]
          exact this
    · intro x c kl yd yp w2 cnt2 hkey hlk hv hat hrg2 hlt hg2 hs2 hen
      obtain ⟨x', ex, rfl, _⟩ := Go.Maps.keyOf_str Tryz.underlying9 hkey
      obtain rfl : x = x' := encStr_inj ex
      obtain ⟨k, hk⟩ : ∃ k, ss.length = k := ⟨_, rfl⟩
      have hkm : k < m := by have := HR.out.le; omega
      have row2 := HR.out.row.of_block (hg2.block R (by have := HR.out.bx; omega) (fun e => hrn (by injection e)))
      have box2 : w2.cell? ⟨R + 1, 0, none⟩ = some (.slice (some ⟨R, 0, none⟩) m m) := (World.cell?_of_block (hg2.block (R + 1) HR.out.bx (fun e => hrn2 (by injection e)))).trans HR.out.box
      have co0 := row2.cell (i := k * 2) (by omega)
      have co1 := row2.cell (i := k * 2 + 1) (by omega)
      have fr0 := row2.frozen (k * 2)
      have fr1 := row2.frozen (k * 2 + 1)
      have HROW := Lib.hid row2
      have HS2 := Lib.hid hs2
      have HRG := Lib.hid hrg2
      have HK := Lib.hid hk
      rw [hk]
      clear hs2 hrg2 row2 hk
      have hx : f x = some c := HT.out.at fun zd => by
        obtain ⟨a, ha, hz⟩ := rInt_inv hv
        injection ha with _ ha
        injection ha with _ ha
        injection hz with hz _
        rw [hat, hz, ha]
      have HST := Lib.hid (HR.out.step HR0.out hmbR HRW.out hg2 HRG.out hlt hlk hat hx k HK.out)
      clear hx hat hlk hg2 hv hkey ex
      go_wp2
      go_roundw
      case rel => exact ⟨_, cnt2, ss ++ [x], by rw [List.length_append, HK.out]; rfl, HST⟩
      case measure => rw [HST.out.rg.left_eq, HR.out.rg.left_eq]; exact hlt

end Go.Proofs.YtngdcnljbfkneaaGreatFmt
