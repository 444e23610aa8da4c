/- Contract: add over a slice of texts and nulls: null where no text stands, else the texts in order as one. -/
import Derived.Test.YtonbnmpleecegabGreatDoorAddA
import Derived.Test.YtonbnmpleecegabGreatDoorLaysB
import Derived.Lib.FrozenHead2
import Derived.Lib.OthersKept
import Derived.Shelf.Strings.BuilderK
namespace Go.Proofs.YtonbnmpleecegabGreatDoor
open Go.RowKit Go.Shelf Go.Deep Go.Lib

attribute [local go_sem] Oper.semAt_some

theorem writeString_k (B b : Nat) (bs : List Value) (s : ByteArray) (w : World) (h : IsBuilderF 51 5 B b bs w) (hlen : bs.length + s.size ≤ 140737488355328) (hBw : B ≤ w.heap.size) :
    Calls Tryz.prog 17 #[.pointer (some ⟨b, 0, none⟩), .string s] w fun e w' => e = .returned (.tuple #[.int .i64 s.size, .nilIface]) ∧ (BuilderAtF 51 5 B b (.pointer (some ⟨b, 0, none⟩)) (bs ++ strCells s) w' ∧ Below B w w' ∧ OthersKept 5 (some b) w w') :=
  Any.Builder_WriteString_k (P := Tryz.prog) (ρ := Tryz.laysB166_ren) Tryz.laysB166 Tryz.extraB166 B b bs s w h hlen hBw
theorem string_k (B b : Nat) (l : List UInt8) (w : World) (h : IsBuilderF 51 5 B b (byteCells l) w) (hBw : B ≤ w.heap.size) :
    Calls Tryz.prog 20 #[.pointer (some ⟨b, 0, none⟩)] w fun e w' => e = .returned (.string ⟨l.toArray⟩) ∧ (IsBuilderF 51 5 B b (byteCells l) w' ∧ Below B w w' ∧ OthersKept 5 (some b) w w') :=
  Any.Builder_String_any_k (P := Tryz.prog) (ρ := Tryz.laysB169_ren) Tryz.laysB169 Tryz.extraB169 B b l w h hBw
/-- A text of at most 2^20 bytes, or null. -/
structure Txt where
  x : Option ByteArray
  len : ∀ s, x = some s → s.size ≤ 1048576
def encT (t : Txt) : Value := match t.x with | none => .nilIface | some s => .iface 9 (.string s)
def Txt.bytes (t : Txt) : List UInt8 := match t.x with | none => [] | some s => s.data.toList
def accB (pre : List Txt) : List UInt8 := pre.flatMap Txt.bytes
def someB (pre : List Txt) : Bool := pre.any fun t => t.x.isSome
theorem accB_snoc (pre : List Txt) (t : Txt) : accB (pre ++ [t]) = accB pre ++ t.bytes := by simp [accB]
theorem someB_snoc (pre : List Txt) (t : Txt) : someB (pre ++ [t]) = (someB pre || t.x.isSome) := by simp [someB]
theorem Txt.bytes_len (t : Txt) : t.bytes.length ≤ 1048576 := by
  unfold Txt.bytes
  cases h : t.x with
  | none => simp
  | some s => exact t.len s h
theorem accB_len : ∀ (pre : List Txt), (accB pre).length ≤ pre.length * 1048576
  | [] => by simp [accB]
  | t :: pre => by
    have h1 := accB_len pre
    have h2 := t.bytes_len
    show (t.bytes ++ accB pre).length ≤ (pre.length + 1) * 1048576
    rw [List.length_append, Nat.add_mul]
    omega
theorem byteCells_len' (l : List UInt8) : (byteCells l).length = l.length := by simp [byteCells]
theorem byteCells_snoc (pre : List Txt) (t : Txt) (s : ByteArray) (h : t.x = some s) : byteCells (accB pre) ++ strCells s = byteCells (accB (pre ++ [t])) := by
  rw [accB_snoc]
  unfold Txt.bytes
  rw [h]
  simp [byteCells, strCells]
theorem builder_fresh (n0 : Nat) (W : World) (h : n0 ≤ W.heap.size) : IsBuilderF 51 5 n0 W.heap.size (byteCells (accB [])) (W.alloc (.cells #[.pointer none, .slice none 0 0] 51)) :=
  Or.inl ⟨h, .slice none 0 0, World.alloc_heap_new _ _, World.ownsRowF_of (World.ownsRow_nil _ _ _ _), by simp [Value.ownBlock]⟩
theorem builder_kept {T e : TypeId} {B b : Nat} {p : Value} {bs : List Value} {W W' : World} {row : Option Nat} (h : BuilderAtF T e B b p bs W) (hg : W.grownBy W' row)
    (hrow : ∀ r, row = some r → r < B ∨ ∃ o : Obj, W.heap[r]? = some o ∧ o.isCells = false) : BuilderAtF T e B b p bs W' := by
  obtain ⟨hB, v, hbk, hown, hnb⟩ := h
  have hlt : b < W.heap.size := (Array.getElem?_eq_some_iff.1 hbk).1
  refine ⟨hB, v, (hg.block b hlt (fun e' => ?_)).trans hbk, hown.kept hg ?_, hnb⟩
  · rcases hrow b e'.symm with h | ⟨o, ho, hc⟩
    · omega
    · rw [hbk] at ho; cases ho; cases hc
  · cases hv : v.ownBlock with
    | none => exact Or.inl rfl
    | some g =>
      refine Or.inr fun e' => ?_
      rcases hrow g e'.symm with h | ⟨o, ho, hc⟩
      · rcases hown.2 with ⟨rfl, _⟩ | ⟨g', cap, cur, fz, rfl, hBg, _⟩
        · simp [Value.ownBlock] at hv
        · have : g' = g := by simpa [Value.ownBlock] using hv
          omega
      · obtain ⟨c0, fz, hg'⟩ := ownsRowF_kind hown g hv
        rw [hg'] at ho; cases ho; cases hc
theorem isBuilder_kept {T e : TypeId} {B b : Nat} {bs : List Value} {W W' : World} {row : Option Nat} (h : IsBuilderF T e B b bs W) (hg : W.grownBy W' row)
    (hrow : ∀ r, row = some r → r < B ∨ ∃ o : Obj, W.heap[r]? = some o ∧ o.isCells = false) : IsBuilderF T e B b bs W' :=
  h.imp (fun h => builder_kept h hg hrow) (fun h => builder_kept h hg hrow)
theorem isBuilder_block {T e : TypeId} {B b : Nat} {bs : List Value} {W : World} (h : IsBuilderF T e B b bs W) : B ≤ b ∧ ∃ c fz, W.heap[b]? = some (.cells c T fz) := by
  rcases h with ⟨hB, v, hbk, _⟩ | ⟨hB, v, hbk, _⟩ <;> exact ⟨hB, _, _, hbk⟩
theorem others_cells {e T : TypeId} {b : Nat} {W W' : World} {c : Array Value} {fz : Nat × Nat} (hb : W.heap[b]? = some (.cells c T fz)) (hk : OthersKept e (some b) W W') (k : Nat) (o : Obj) (h : W.heap[k]? = some o) (ho : o.isCells = false) : W'.heap[k]? = some o := by
  refine hk k o h ?_ ?_
  · intro e'
    cases e'
    rw [hb] at h; cases h; cases ho
  · rintro c fz rfl; cases ho
/-- What stands in v behind the rounds pre. -/
def AccT (n₀ : Nat) (W : World) (pre : List Txt) (v : Value) : Prop :=
  (someB pre = false ∧ accB pre = [] ∧ v = .nilIface) ∨ ∃ b, someB pre = true ∧ v = .iface 49 (.pointer (some ⟨b, 0, none⟩)) ∧ IsBuilderF 51 5 n₀ b (byteCells (accB pre)) W
def AccIT (n₀ B : Nat) (pre : List Txt) (W : World) : Prop := (∃ v, Boxed W (B + 1) 20 v ∧ AccT n₀ W pre v) ∧ Boxed W B 20 .nilIface
theorem accIT_own (n₀ B : Nat) : Own (AccIT n₀ B) := by
  rintro s X Y row ⟨⟨v, hv, hr⟩, hb⟩ hg hrow
  refine ⟨⟨v, boxed_kept hv hg hrow, ?_⟩, boxed_kept hb hg hrow⟩
  rcases hr with h | ⟨b, h1, h2, h3⟩
  · exact .inl h
  · exact .inr ⟨b, h1, h2, isBuilder_kept h3 hg (fun r e => .inr (hrow r e))⟩
def PostT (h0 D : Nat) (w : World) (pre : List Txt) (W W' : World) : Prop :=
  KeepsFrom D W W' ∧ Below h0 W W' ∧ AccIT (h0 + 2) h0 pre W' ∧ Below h0 w W'
theorem post_null (h0 D : Nat) (w W : World) (pre : List Txt) (t : Txt) (ht : t.x = none) (h : AccIT (h0 + 2) h0 pre W) (hB : Below h0 w W) : PostT h0 D w (pre ++ [t]) W W := by
  refine ⟨KeepsFrom.refl _ _, Below.refl _ _, ?_, hB⟩
  have e1 : accB (pre ++ [t]) = accB pre := by rw [accB_snoc]; unfold Txt.bytes; rw [ht]; simp
  have e2 : someB (pre ++ [t]) = someB pre := by rw [someB_snoc, ht]; simp
  unfold AccIT AccT at h ⊢
  rw [e1, e2]
  exact h
/-- Behind a writing into the builder b. -/
theorem post_text (h0 D b : Nat) (w W W2 w1 : World) (pre : List Txt) (t : Txt) (s : ByteArray) (ht : t.x = some s) (v0 : Value) (hv : Boxed W2 (h0 + 1) 20 v0) (hb0 : Boxed W2 h0 20 .nilIface) (_hn : h0 + 2 ≤ W2.heap.size)
    (hB : Below h0 w W2) (hKO : KeepsFrom D W W2) (hBW : Below h0 W W2) (hB0 : IsBuilderF 51 5 (h0 + 2) b (byteCells (accB pre)) W2)
    (h1 : BuilderAtF 51 5 (h0 + 2) b (.pointer (some ⟨b, 0, none⟩)) (byteCells (accB pre) ++ strCells s) w1) (hb1 : Below (h0 + 2) W2 w1) (hk1 : OthersKept 5 (some b) W2 w1) :
    Boxed w1 (h0 + 1) 20 v0 ∧ PostT h0 D w (pre ++ [t]) W (w1.setCell ⟨h0 + 1, 0, none⟩ (.iface 49 (.pointer (some ⟨b, 0, none⟩)))) ∧ (v0 = .iface 49 (.pointer (some ⟨b, 0, none⟩)) → PostT h0 D w (pre ++ [t]) W w1) := by
  have hv1 : Boxed w1 (h0 + 1) 20 v0 := (hb1.block (h0 + 1) (by omega)).trans hv
  have hb01 : Boxed w1 h0 20 .nilIface := (hb1.block h0 (by omega)).trans hb0
  obtain ⟨hnb, c, fz, hbk⟩ := isBuilder_block hB0
  have hKO1 : KeepsFrom D W w1 := ⟨Nat.le_trans hKO.size hb1.size, fun k o hk ho hc => others_cells hbk hk1 k o (hKO.same k o hk ho hc) hc⟩
  have hb1' := hb1.mono (show h0 ≤ h0 + 2 by omega)
  rw [byteCells_snoc pre t s ht] at h1
  have e2 : someB (pre ++ [t]) = true := by rw [someB_snoc, ht]; simp
  have hs : Below h0 w1 (w1.setCell ⟨h0 + 1, 0, none⟩ (.iface 49 (.pointer (some ⟨b, 0, none⟩)))) := (Below.refl _ _).setCell (p := ⟨h0 + 1, 0, none⟩) (by simp) _
  refine ⟨hv1, ⟨?_, (hBW.trans hb1').trans hs, ⟨⟨_, hv1.set _, .inr ⟨b, e2, rfl, ?_⟩⟩, hb01.kept (grownBy_setCell' _ _ _) (by simp)⟩, (hB.trans hb1').trans hs⟩, fun e => ⟨hKO1, hBW.trans hb1', ⟨⟨_, hv1, .inr ⟨b, e2, e, .inr h1⟩⟩, hb01⟩, hB.trans hb1'⟩⟩
  · have hk2 := KeepsOthers.setCell w1 ⟨h0 + 1, 0, none⟩ (.iface 49 (.pointer (some ⟨b, 0, none⟩)))
    exact ⟨Nat.le_trans hKO1.size hk2.size, fun k o hk ho hc => hk2.same k o (hKO1.same k o hk ho hc) hc⟩
  · exact .inr (builder_kept h1 (grownBy_setCell' _ _ _) (fun r e => .inl (by cases e; omega)))
set_option maxRecDepth 100000 in
set_option maxHeartbeats 8000000 in
theorem add_txt_in (n len : Nat) (hn : 3 ≤ n) (hlen : len ≤ 65536) (w : World) (fr : Nat → Txt) (Bs b off cap : Nat)
    (hBs : w.cell? ⟨Bs, 0, none⟩ = some (.slice (some ⟨b, off, none⟩) len cap)) (hBl : Bs < w.heap.size) (hb : b < w.heap.size) (hc : ∀ j, j < len → w.cell? ⟨b, off + j, none⟩ = some (encT (fr j))) :
    CallsIn Fence.wide n Tryz.prog 14 #[.func (.func 22) #[] #[.pointer (some ⟨Bs, 0, none⟩)]] w fun e W' => ∃ v, e = .returned v ∧
      ((someB (upto fr len) = false ∧ v = .nilIface) ∨ (someB (upto fr len) = true ∧ v = .iface 9 (.string ⟨(accB (upto fr len)).toArray⟩))) ∧ Below w.heap.size w W' := by
  have h1 : 1 ≤ n := by omega
  have hA : Fence.wide.fn 14 := trivial
  have hV : Fence.wide.fn 22 := trivial
  have hro : Fence.wide.round = none := rfl
  refine callsIn_of_wp_marks Tryz.func14 rfl hA ?_ hro
  simp only [Tryz.ntmps14, List.size_toArray, List.length_cons, List.length_nil, Nat.reduceAdd, Nat.reduceSub, Array.replicate_succ, Array.replicate_zero, List.push_toArray, List.append_toArray, List.nil_append, List.cons_append]
  gi_wp2
  have b0 := Boxed.new w 20 .nilIface
  have b1 := Boxed.new (w.alloc (.cells #[.nilIface] 20)) 20 .nilIface
  rw [World.size_alloc] at b1
  have hB0 : Below w.heap.size w ((w.alloc (.cells #[.nilIface] 20)).alloc (.cells #[.nilIface] 20)) := ((Below.refl _ w).alloc (Nat.le_refl _) _).alloc (by simp) _
  refine wpIn_rangeFunc_ownG hro h1 (gf := 22) (lb := #[.pointer (some ⟨Bs, 0, none⟩)]) rfl hV (enters_of Tryz.func22 (by kernel_rfl) rfl)
    (values_stops encT fr Fence.wide (n - 1) hV hro (by omega) Bs w.heap.size b off len cap (by omega) (fun _ => hb) _ (by simp; omega) (by simp; omega) ((hB0.cell (p := ⟨Bs, 0, none⟩) hBl).trans hBs) (fun j hj => (hB0.cell (p := ⟨b, off + j, none⟩) hb).trans (hc j hj))) belowK_t (belowK_b (by simp; omega)) (Below.refl _ _) (fun _ => rfl)
    (fun pre W => AccIT (w.heap.size + 2) w.heap.size pre W ∧ Below w.heap.size w W)
    (fun _ _ _ => False)
    (OwnFrom.and (Own.from (accIT_own (w.heap.size + 2) w.heap.size) _) (ownFrom_below (Nat.le_refl _) (by simp; omega)))
    (fun _ _ _ _ _ hs _ _ => hs)
    ⟨⟨⟨_, b1, .inl ⟨rfl, rfl, rfl⟩⟩, b0.alloc _⟩, hB0⟩
    (fun x => { tmps := #[.func (.func 22) #[] #[.pointer (some ⟨Bs, 0, none⟩)], undef, .pointer (some ⟨w.heap.size, 0, none⟩), .pointer (some ⟨w.heap.size + 1, 0, none⟩), encT x, undef, undef, undef, undef, undef, undef, undef, undef, undef, undef, undef, undef, undef, undef, undef, undef, undef, undef, .func (.func 22) #[] #[.pointer (some ⟨Bs, 0, none⟩)], encT x, undef, undef, undef, undef, undef, undef, undef, undef, undef, undef, undef, undef, undef, undef, undef, undef, undef, undef, undef, undef, undef, undef, undef, undef, undef, undef, undef, undef, undef, undef, undef, undef, undef, undef, undef, undef, undef, undef, undef, undef, undef, undef, undef, undef, undef, undef, undef, undef, undef, undef, undef, undef, undef, undef, undef, undef, undef, undef, undef, undef, undef, undef, undef, undef, undef, undef, undef, undef, undef, undef, undef, undef, undef, undef, undef, undef, undef, undef, undef], defers := [] }) ?assign ?body ?done ?stop
  case assign =>
    intro l x W K hK
    gi_wp2
    exact hK
  case body =>
    rintro l pre x W ⟨hI, hB⟩ hlt
    have hI0 := hI
    obtain ⟨⟨v, hv, hacc⟩, hb0⟩ := hI
    have hcv := hv.cell
    have hfv := hv.frozen
    have hvl : w.heap.size + 1 < W.heap.size := hv.lt
    have hal := accB_len pre
    have hal2 : (accB pre).length ≤ 65536 * 1048576 := Nat.le_trans hal (Nat.mul_le_mul (by omega) (Nat.le_refl _))
    cases hx : x.x with
    | none =>
      have ex : encT x = .nilIface := by unfold encT; rw [hx]
      rw [ex]
      gi_wp2
      exact post_null _ _ _ _ _ _ hx hI0 hB
    | some s =>
      have ex : encT x = .iface 9 (.string s) := by unfold encT; rw [hx]
      have hsl := x.len s hx
      rw [ex]
      rcases hacc with ⟨hs0, ha0, rfl⟩ | ⟨g, hs1, rfl, hbd⟩
      · have hfr : IsBuilderF 51 5 (w.heap.size + 2) W.heap.size (byteCells (accB pre)) (W.alloc (.cells #[.pointer none, .slice none 0 0] 51)) := by rw [ha0]; exact builder_fresh _ W (by omega)
        have hl0 : (byteCells (accB pre)).length + s.size ≤ 140737488355328 := by rw [byteCells_len']; omega
        have hz : w.heap.size + 2 ≤ (W.alloc (.cells #[.pointer none, .slice none 0 0] 51)).heap.size := by rw [World.size_alloc]; omega
        have HW := Lib.hid (callsIn_wide (n := n - 1 - 1 - 1).2 (writeString_k _ _ _ s _ hfr hl0 hz))
        have HPOST := fun w1 h1 hb1 hk1 => post_text w.heap.size ((w.alloc (.cells #[.nilIface] 20)).alloc (.cells #[.nilIface] 20)).heap.size W.heap.size w W _ w1 pre x s hx _ (hv.alloc _) (hb0.alloc _) hz (hB.alloc hB.size _) ((KeepsOthers.alloc W _).from _) ((Below.refl _ W).alloc hB.size _) hfr h1 hb1 hk1
        have HP := Lib.hid HPOST
        clear HPOST
        gi_wp2
        refine ⟨trivial, fun _ => by omega, (CallsIn.inRound l HW.out).mono ?_⟩
        rintro e w1 ⟨rfl, h1, hb1, hk1⟩
        obtain ⟨hv1, hpost, _⟩ := HP.out w1 h1 hb1 hk1
        have hc1 := hv1.cell
        have hf1 := hv1.frozen
        gi_wp2
        exact hpost
      · have hl0 : (byteCells (accB pre)).length + s.size ≤ 140737488355328 := by rw [byteCells_len']; omega
        have hz : w.heap.size + 2 ≤ W.heap.size := by omega
        have HW := Lib.hid (callsIn_wide (n := n - 1 - 1 - 1).2 (writeString_k _ _ _ s _ hbd hl0 hz))
        have HPOST := fun w1 h1 hb1 hk1 => post_text w.heap.size ((w.alloc (.cells #[.nilIface] 20)).alloc (.cells #[.nilIface] 20)).heap.size g w W W w1 pre x s hx _ hv hb0 hz hB (KeepsFrom.refl _ _) (Below.refl _ W) hbd h1 hb1 hk1
        have HP := Lib.hid HPOST
        clear HPOST
        gi_wp2
        refine ⟨trivial, fun _ => by omega, (CallsIn.inRound l HW.out).mono ?_⟩
        rintro e w1 ⟨rfl, h1, hb1, hk1⟩
        obtain ⟨hv1, _, hpost⟩ := HP.out w1 h1 hb1 hk1
        gi_wp2
        exact hpost trivial
  case done =>
    rintro D ys W hD rfl ⟨⟨⟨v, hv, hacc⟩, hb0⟩, hB⟩ hK
    have hcv := hv.cell
    have hfv := hv.frozen
    have hc0 := hb0.cell
    have hf0 := hb0.frozen
    have hvl : w.heap.size + 1 < W.heap.size := hv.lt
    rcases hacc with ⟨hs0, _, rfl⟩ | ⟨g, hs1, rfl, hbd⟩
    · gi_wp2
      have hK2 := (KeepsOthers.setCell W ⟨w.heap.size, 0, none⟩ (.nilIface)).same D _ hK rfl
      have hcs : (W.setCell ⟨w.heap.size, 0, none⟩ (.nilIface)).cell? ⟨w.heap.size, 0, none⟩ = some (.nilIface) := (hb0.set _).cell
      have hcp : ((W.setCell ⟨w.heap.size, 0, none⟩ (.nilIface)).putObj D (.deferred none)).cell? ⟨w.heap.size, 0, none⟩ = some (.nilIface) := cell_kept hcs (grownBy_putObj' _ D (.deferred none)) (fun r e => by cases e; exact ⟨_, hK2, rfl⟩)
      have hBf : Below w.heap.size w ((W.setCell ⟨w.heap.size, 0, none⟩ (.nilIface)).putObj D (.deferred none)) := (hB.setCell (p := ⟨w.heap.size, 0, none⟩) (Nat.le_refl _) _).trans (belowK_b (w := w) (Nat.le_refl _) _ D _ _ (by simp at hD; omega) hK2 rfl rfl)
      refine ⟨by simp, .inl ⟨_, _, rfl, run_takeDeferred hK2, ?_⟩⟩
      refine ⟨.nilIface, by simp [results, Tryz.results14, go_sem, hcp], .nilIface, rfl, .inl ⟨hs0, rfl⟩, hBf⟩
    · have hz : w.heap.size + 2 ≤ W.heap.size := by omega
      have HW := Lib.hid (callsIn_wide (n := n - 1).2 (string_k _ _ _ _ hbd hz))
      obtain ⟨hnb, c, fz, hbk⟩ := isBuilder_block hbd
      obtain ⟨acc, hacc⟩ : ∃ acc, accB (upto fr len) = acc := ⟨_, rfl⟩
      rw [hacc] at HW
      gi_wp2
      refine ⟨trivial, HW.out.mono ?_⟩
      rintro e w1 ⟨rfl, h1, hb1, hk1⟩
      have hv1 : Boxed w1 (w.heap.size + 1) 20 _ := (hb1.block (w.heap.size + 1) (by omega)).trans hv
      have hb01 : Boxed w1 w.heap.size 20 _ := (hb1.block w.heap.size (by omega)).trans hb0
      have hc1 := hv1.cell
      have hf1 := hv1.frozen
      have hc2 := hb01.cell
      have hf2 := hb01.frozen
      have hKw : w1.heap[D]? = some (.deferred (some [])) := others_cells hbk hk1 D _ hK rfl
      have hB1 : Below w.heap.size w w1 := hB.trans (hb1.mono (by omega))
      have hcv2 := (hv1.set (.iface 9 (.string ⟨acc.toArray⟩))).cell
      clear hK hcv hfv hc0 hf0
      gi_wp2
      have hb02 : Boxed (w1.setCell ⟨w.heap.size + 1, 0, none⟩ (.iface 9 (.string ⟨acc.toArray⟩))) w.heap.size 20 .nilIface := hb01.kept (grownBy_setCell' _ _ _) (by simp)
      have hK1 := (KeepsOthers.setCell w1 ⟨w.heap.size + 1, 0, none⟩ (.iface 9 (.string ⟨acc.toArray⟩))).same D _ hKw rfl
      have hB2 := hB1.setCell (p := ⟨w.heap.size + 1, 0, none⟩) (by simp) (.iface 9 (.string ⟨acc.toArray⟩))
      obtain ⟨W2, hW2⟩ : ∃ W2, w1.setCell ⟨w.heap.size + 1, 0, none⟩ (.iface 9 (.string ⟨acc.toArray⟩)) = W2 := ⟨_, rfl⟩
      rw [hW2] at hb02 hK1 hB2 ⊢
      have hK2 := (KeepsOthers.setCell W2 ⟨w.heap.size, 0, none⟩ (.iface 9 (.string ⟨acc.toArray⟩))).same D _ hK1 rfl
      have hcs : (W2.setCell ⟨w.heap.size, 0, none⟩ (.iface 9 (.string ⟨acc.toArray⟩))).cell? ⟨w.heap.size, 0, none⟩ = some (.iface 9 (.string ⟨acc.toArray⟩)) := (hb02.set _).cell
      have hcp : ((W2.setCell ⟨w.heap.size, 0, none⟩ (.iface 9 (.string ⟨acc.toArray⟩))).putObj D (.deferred none)).cell? ⟨w.heap.size, 0, none⟩ = some (.iface 9 (.string ⟨acc.toArray⟩)) := cell_kept hcs (grownBy_putObj' _ D (.deferred none)) (fun r e => by cases e; exact ⟨_, hK2, rfl⟩)
      have hBf : Below w.heap.size w ((W2.setCell ⟨w.heap.size, 0, none⟩ (.iface 9 (.string ⟨acc.toArray⟩))).putObj D (.deferred none)) := (hB2.setCell (p := ⟨w.heap.size, 0, none⟩) (Nat.le_refl _) _).trans (belowK_b (w := w) (Nat.le_refl _) _ D _ _ (by simp at hD; omega) hK2 rfl rfl)
      refine ⟨by simp, .inl ⟨_, _, rfl, run_takeDeferred hK2, ?_⟩⟩
      refine ⟨.iface 9 (.string ⟨acc.toArray⟩), by simp [results, Tryz.results14, go_sem, hcp], .iface 9 (.string ⟨acc.toArray⟩), rfl, .inr ⟨hs1, by rw [hacc]⟩, hBf⟩
  case stop =>
    rintro D c pre W _ _ h _
    exact h.elim
end Go.Proofs.YtonbnmpleecegabGreatDoor
