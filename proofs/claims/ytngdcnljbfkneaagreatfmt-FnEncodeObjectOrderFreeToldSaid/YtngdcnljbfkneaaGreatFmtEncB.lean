/- Contracts: the encoder over a strings.Builder at an int: (*strings.Builder).Write, encode, jsonMarshal. -/
import Derived.Test.YtngdcnljbfkneaaGreatFmtEncA
import Derived.Test.YtngdcnljbfkneaaGreatFmtLaysB
import Derived.Deep.RegionWith
import Derived.Lib.FrozenHead2
import Derived.Lib.OthersKept
import Derived.Shelf.Strings.BuilderK
namespace Go.Proofs.YtngdcnljbfkneaaGreatFmt
open Go.RowKit Go.Deep Go.Lib Go.Sort

theorem copyCheck_k (B b : Nat) (bs : List Value) (w : World) (h : IsBuilderF 39 5 B b bs w) :
    Calls Tryz.prog 258 #[.pointer (some ⟨b, 0, none⟩)] w fun e w' => e = .returned (.tuple #[]) ∧ (BuilderAtF 39 5 B b (.pointer (some ⟨b, 0, none⟩)) bs w' ∧ Below B w w' ∧ OthersKept 5 (some b) w w') :=
  Any.Builder_copyCheck_k (P := Tryz.prog) (ρ := Tryz.laysB166_ren) { Tryz.laysB166 with } Tryz.extraB166.toX72 B b bs w h
theorem writeString_k (B b : Nat) (bs : List Value) (s : ByteArray) (w : World) (h : IsBuilderF 39 5 B b bs w) (hlen : bs.length + s.size ≤ 140737488355328) (hBw : B ≤ w.heap.size) :
    Calls Tryz.prog 257 #[.pointer (some ⟨b, 0, none⟩), .string s] w fun e w' => e = .returned (.tuple #[.int .i64 s.size, .nilIface]) ∧ (BuilderAtF 39 5 B b (.pointer (some ⟨b, 0, none⟩)) (bs ++ strCells s) w' ∧ Below B w w' ∧ OthersKept 5 (some b) w w') :=
  Any.Builder_WriteString_k (P := Tryz.prog) (ρ := Tryz.laysB166_ren) Tryz.laysB166 Tryz.extraB166 B b bs s w h hlen hBw

theorem Enc.others {T e : TypeId} {eb : Nat} {bo : Option Nat} {ifc : Value} {w w' : World} {l : List UInt8} (h : Enc T eb ifc w l) (hk : OthersKept e bo w w') (hT : T ≠ e) (hne : some eb ≠ bo) : Enc T eb ifc w' l := by
  obtain ⟨cur, hb, h1⟩ := h
  exact ⟨cur, hk eb _ hb hne (fun c fz hc => by injection hc with _ h2 _; exact hT h2), h1⟩
theorem builder_only {T e TE : TypeId} {B b eb : Nat} {p : Value} {bs : List Value} {ifc : Value} {l : List UInt8} {w w' : World} (h : BuilderAtF T e B b p bs w) (hE : Enc TE eb ifc w l) (ho : Only eb w w') (hne : eb ≠ b) (hT : TE ≠ e) : BuilderAtF T e B b p bs w' := by
  obtain ⟨hB, v, hbk, hown, hnb⟩ := h
  have hlt : b < w.heap.size := (Array.getElem?_eq_some_iff.1 hbk).1
  refine ⟨hB, v, (ho.block b hlt (fun c => hne c.symm)).trans hbk, hown.kept (row := some eb) ⟨ho.os, ho.tape, ho.output, ho.size, fun k hk hr => ho.block k hk (fun c => hr (by rw [c]))⟩ ?_, hnb⟩
  obtain ⟨cur, hb, _⟩ := hE
  cases hv : v.ownBlock with
  | none => exact Or.inl rfl
  | some g =>
    refine Or.inr fun c => ?_
    obtain ⟨c0, fz, hg⟩ := ownsRowF_kind hown g hv
    injection c with c
    subst c
    rw [hb] at hg
    injection hg with hg
    injection hg with _ h2 _
    exact hT h2
theorem isBuilder_only {T e TE : TypeId} {B b eb : Nat} {bs : List Value} {ifc : Value} {l : List UInt8} {w w' : World} (h : IsBuilderF T e B b bs w) (hE : Enc TE eb ifc w l) (ho : Only eb w w') (hne : eb ≠ b) (hT : TE ≠ e) : IsBuilderF T e B b bs w' :=
  h.imp (fun h => builder_only h hE ho hne hT) (fun h => builder_only h hE ho hne hT)

set_option maxHeartbeats 2000000 in
set_option maxRecDepth 100000 in
/-- (*strings.Builder).Write of the first bytes of the encoder's buffer. -/
theorem bWrite_any (B b eb : Nat) (ifc : Value) (bs : List Value) (l : List UInt8) (W : World) (h : IsBuilderF 39 5 B b bs W) (hE : Enc 44 eb ifc W l) (hlen : bs.length + l.length ≤ 140737488355328) (hBw : B ≤ W.heap.size) (hne : eb ≠ b) :
    Calls Tryz.prog 255 #[.pointer (some ⟨b, 0, none⟩), .slice (some ⟨eb, 1, none⟩) l.length 64] W
      fun e w' => e = .returned (.tuple #[.int .i64 l.length, .nilIface]) ∧ BuilderAtF 39 5 B b (.pointer (some ⟨b, 0, none⟩)) (bs ++ Lib.byteCells l) w' ∧ Below B W w' ∧ OthersKept 5 (some b) W w' := by
  obtain ⟨i0, hi, hz0, hz1, hz2⟩ := info_parts info_u8e
  have HE := Lib.hid hE
  have hcc := copyCheck_k B b bs W h
  obtain ⟨n, hn⟩ : ∃ n, l.length = n := ⟨_, rfl⟩
  rw [hn]
  have HN := Lib.hid hn
  have HLEN := Lib.hid hlen
  clear hE h hn hlen
  go_enter Tryz.func255, Tryz.ntmps255
  go_wp2_with (go_at_call 258; refine hcc.mono ?_)
  rintro e w1 ⟨rfl, h1, hb1, hk1⟩
  have hE1 := HE.out.others hk1 (by decide) (fun c => hne (by injection c))
  obtain ⟨hB, v, hbk, hown, hnb⟩ := h1
  have HE1 := Lib.hid hE1
  have HB1 := Lib.hid hb1
  have HK1 := Lib.hid hk1
  have c0 : w1.cell? ⟨b, 0, none⟩ = some (.pointer (some ⟨b, 0, none⟩)) := by rw [Lib.cell_of_heap hbk]; rfl
  have c1 : w1.cell? ⟨b, 1, none⟩ = some v := by rw [Lib.cell_of_heap hbk]; rfl
  have HBK := Lib.hid hbk
  have HOWN := Lib.hid hown
  clear hE1 hb1 hk1 hbk hown hcc
  have hnews : ∀ j u, (Lib.byteCells l)[j]? = some u → w1.cell? ((⟨eb, 1, none⟩ : Addr).add j) = some u := fun j u hj => by
    simp only [Lib.byteCells, List.getElem?_map, Option.map_eq_some_iff] at hj
    obtain ⟨x, hx, rfl⟩ := hj
    exact HE1.out.bytes j x hx
  have hone : ∀ u ∈ Lib.byteCells l, u.oneCell' = true := fun u hu => by
    simp only [Lib.byteCells, List.mem_map] at hu
    obtain ⟨x, _, rfl⟩ := hu
    rfl
  have HNEWS := Lib.hid hnews
  have HONE := Lib.hid hone
  clear hnews hone
  go_wp2_with (at_builtin; refine wpList_append_ownF _ rfl _ _ 33 rfl B 5 i0 (.int .u8 0) 1 1 Tryz.underlying33 hi hz0 hz1 hz2 rfl (by decide) _ _ _ rfl HOWN.out ⟨eb, 1, none⟩ n 64 (Lib.byteCells l) rfl (by rw [Own.byteCells_len, Nat.mul_one]; exact HN.out) HNEWS.out HONE.out (by have := HLEN.out; have := HN.out; unfold maxLen; omega) (by have := HLEN.out; have := HN.out; omega) (by have := HB1.out.size; omega) ?_)
  intro v' w2 hown' hgrow _
  have hlt : b < w1.heap.size := (Array.getElem?_eq_some_iff.1 HBK.out).1
  have hb2 : w2.heap[b]? = some (.cells #[.pointer (some ⟨b, 0, none⟩), v] 39 (0, 0)) := by
    rw [hgrow.block b hlt (fun e => hnb e.symm)]
    exact HBK.out
  have d0 : w2.cell? ⟨b, 0, none⟩ = some (.pointer (some ⟨b, 0, none⟩)) := by rw [Lib.cell_of_heap hb2]; rfl
  have d1 : w2.cell? ⟨b, 1, none⟩ = some v := by rw [Lib.cell_of_heap hb2]; rfl
  have f1 : w2.frozen? ⟨b, 1, none⟩ = false := Lib.frozen_of_heap hb2 1
  obtain ⟨ao, n', cap, rfl⟩ : ∃ ao n' cap, v' = .slice ao n' cap := by
    rcases hown'.2 with ⟨hv, _⟩ | ⟨g, cap, cur, fz, hv, _⟩
    · exact ⟨_, _, _, hv⟩
    · exact ⟨_, _, _, hv⟩
  have HB2 := Lib.hid hb2
  have HO2 := Lib.hid hown'
  have HG2 := Lib.hid hgrow
  clear hb2 hown' hgrow
  go_wp2
  go_ret2
  refine ⟨rfl, ?_, ?_, (HK1.out.grown HG2.out (ownsRowF_kind HOWN.out)).setCell ⟨b, 1, none⟩ rfl _⟩
  · exact BuilderAtF.put (T := 39) (e := 5) hB HB2.out (bs' := bs ++ Lib.byteCells l) (by rw [List.length_append, Own.byteCells_len, HN.out]; exact HO2.out) (by decide)
  · exact (HB1.out.grown HG2.out (by have := HB1.out.size; omega) (fun k hk => (HOWN.out.lt k hk).1)).setCell (p := ⟨b, 1, none⟩) hB _

/-- Nothing below B has turned, and no row of entries. -/
structure Keep (B : Nat) (W w : World) : Prop extends Below B W w where
  kv : ∀ (k : Nat) (c : Array Value) (fz : Nat × Nat), W.heap[k]? = some (.cells c 55 fz) → w.heap[k]? = some (.cells c 55 fz)
theorem Keep.refl (B : Nat) (W : World) : Keep B W W := ⟨Below.refl _ _, fun _ _ _ h => h⟩
theorem Keep.trans {B : Nat} {a b c : World} (h : Keep B a b) (k : Keep B b c) : Keep B a c := ⟨h.toBelow.trans k.toBelow, fun i x f hi => k.kv i x f (h.kv i x f hi)⟩
theorem Keep.later {B : Nat} {W w w' : World} (h : Keep B W w) (hb : Below w.heap.size w w') (hB : B ≤ w.heap.size) : Keep B W w' :=
  ⟨h.toBelow.trans (hb.mono hB), fun i x f hi => by have := h.kv i x f hi; rw [hb.block i (Array.getElem?_eq_some_iff.1 this).1]; exact this⟩
theorem kv_others {b : Nat} {w w' : World} {bs : List Value} {B : Nat} (hb : IsBuilderF 39 5 B b bs w) (h : OthersKept 5 (some b) w w') (k : Nat) (c : Array Value) (fz : Nat × Nat) (hk : w.heap[k]? = some (.cells c 55 fz)) : w'.heap[k]? = some (.cells c 55 fz) := by
  refine h k _ hk (fun e => ?_) (fun c' fz' e => ?_)
  · injection e with e
    subst e
    have hh : ∃ c2 fz2, w.heap[k]? = some (.cells c2 39 fz2) := by
      rcases hb with hb | hb
      · obtain ⟨_, v, hbk, _⟩ := hb; exact ⟨_, _, hbk⟩
      · obtain ⟨_, v, hbk, _⟩ := hb; exact ⟨_, _, hbk⟩
    obtain ⟨c2, fz2, h2⟩ := hh
    rw [hk] at h2
    injection h2 with h2
    injection h2 with _ h2 _
    exact absurd h2 (by decide)
  · injection e with _ e _
    exact absurd e (by decide)
theorem kv_only {T : TypeId} {eb : Nat} {ifc : Value} {l : List UInt8} {w w' : World} (hE : Enc T eb ifc w l) (hT : T ≠ 55) (h : Only eb w w') (k : Nat) (c : Array Value) (fz : Nat × Nat) (hk : w.heap[k]? = some (.cells c 55 fz)) : w'.heap[k]? = some (.cells c 55 fz) := by
  rw [h.block k (Array.getElem?_eq_some_iff.1 hk).1 (fun e => ?_)]
  · exact hk
  · subst e
    obtain ⟨cur, h2, _⟩ := hE
    rw [hk] at h2
    injection h2 with h2
    injection h2 with _ h2 _
    exact absurd h2.symm hT
def EncEnd (B b eb : Nat) (bs : List Value) (W : World) (e : Ending) (w' : World) : Prop :=
  e = .returned (.tuple #[]) ∧ BuilderAtF 39 5 B b (.pointer (some ⟨b, 0, none⟩)) bs w' ∧ Enc 44 eb (.iface 37 (.pointer (some ⟨b, 0, none⟩))) w' [] ∧ Keep B W w'
set_option maxHeartbeats 4000000 in
set_option maxRecDepth 100000 in
theorem encode_int (B b eb : Nat) (bs : List Value) (n : Int) (h0 : -9223372036854775808 ≤ n) (h1 : n ≤ 9223372036854775807) (W : World) (h : IsBuilderF 39 5 B b bs W)
    (hE : Enc 44 eb (.iface 37 (.pointer (some ⟨b, 0, none⟩))) W []) (hlen : bs.length ≤ 140737488355000) (hBw : B ≤ W.heap.size) (hBe : B ≤ eb) (hne : eb ≠ b)
    (htab : Lib.TabBelow Tryz.prog B W "internal/strconv.uint64pow10" .u64 Lib.pow10Tab) :
    Calls Tryz.prog 23 #[.pointer (some ⟨eb, 0, none⟩), .iface 3 (.int .i64 n)] W (EncEnd B b eb (bs ++ Lib.byteCells (itoa n)) W) := by
  have hil : (itoa n).length ≤ 21 := by
    unfold itoa
    split
    · have := dec_len n.natAbs (by omega); simp; omega
    · have := dec_len n.toNat (by omega); omega
  have hA := fun w (hw : Below W.heap.size W w) => appendInt_any 44 B eb _ n h0 h1 w (hE.later hw) hBe (htab.on (hw.mono hBw))
  have HA : Hid (∀ w, Below W.heap.size W w → Calls Tryz.prog 32 #[.slice (some ⟨eb, 1, none⟩) 0 64, .int .i64 n, .int .i64 10] w
      fun e w' => e = .returned (.slice (some ⟨eb, 1, none⟩) (itoa n).length 64) ∧ Enc 44 eb (.iface 37 (.pointer (some ⟨b, 0, none⟩))) w' (itoa n) ∧ Only eb W w') := Lib.hid fun w hw =>
    (hA w hw).mono fun e w' ⟨he, hE', hO⟩ => ⟨he, hE', (Only.of_below hw).trans hO⟩
  obtain ⟨l, hl⟩ : ∃ l, itoa n = l := ⟨_, rfl⟩
  rw [hl] at hil HA ⊢
  have HW : Hid (∀ w, Enc 44 eb (.iface 37 (.pointer (some ⟨b, 0, none⟩))) w l → Only eb W w → Calls Tryz.prog 255 #[.pointer (some ⟨b, 0, none⟩), .slice (some ⟨eb, 1, none⟩) l.length 64] w
      fun e w' => e = .returned (.tuple #[.int .i64 l.length, .nilIface]) ∧ BuilderAtF 39 5 B b (.pointer (some ⟨b, 0, none⟩)) (bs ++ Lib.byteCells l) w' ∧ Enc 44 eb (.iface 37 (.pointer (some ⟨b, 0, none⟩))) w' [] ∧ Keep B W w') := Lib.hid fun w he ho =>
    (bWrite_any B b eb _ bs l w (isBuilder_only h hE ho hne (by decide)) he (by omega) (Nat.le_trans hBw ho.size) hne).mono fun e w' ⟨h1, h2, h3, h4⟩ =>
      ⟨h1, h2, (he.others h4 (by decide) (fun c => hne (by injection c))).empty, ⟨(ho.below hBe hBw).trans h3, fun k c fz hk => kv_others (isBuilder_only h hE ho hne (by decide)) h4 k c fz (kv_only hE (by decide) ho k c fz hk)⟩⟩
  have hw0 := hE.writer
  have hsl : ∀ w, (Instr.sliceAt 42 (.pointer (some ⟨eb, 1, none⟩)) none (some (.int .i64 0)) none).run Tryz.prog w = .ok (.slice (some ⟨eb, 1, none⟩) 0 64) w := fun w => by
    rw [run_sliceAt_array_h w 42 ⟨eb, 1, none⟩ (by kernel_rfl) .i64 0 (by decide) (by rw [show Tryz.prog.arrayLen 42 = 64 by kernel_rfl]; decide)]
    rw [show Tryz.prog.arrayLen 42 = 64 by kernel_rfl]
    go_simp
  clear hA h hE htab hl hBw hil
  go_enter Tryz.func23, Tryz.ntmps23
  go_wp2_with fail
  go_region_with (first
    | (go_at_call 32; refine (HA.out _ ?_).mono ?_; (first | exact Below.refl _ _ | exact (Below.refl _ _).drew | exact (Below.refl _ _).drew.drew); rintro e w1 ⟨rfl, hE1, hO1⟩; have hw1 := hE1.writer)
    | (go_at_call 255; refine (HW.out _ ?_ ?_).mono ?_; exact hE1; exact ⟨hO1.os, hO1.tape, hO1.output, hO1.size, hO1.block⟩; rintro e w2 ⟨rfl, hB2, hE2, hb2⟩))
  all_goals (try go_wp2_with fail)
  all_goals go_returns
  all_goals exact ⟨rfl, hB2, hE2, hb2⟩

theorem enc_fresh {T : TypeId} {ifc : Value} (wr : World) (o : Obj) (C : Array Value) (h1 : C.size = 65) (h2 : C[0]? = some ifc) : Enc T (wr.heap.size + 1) ifc ((wr.alloc o).alloc (.cells C T)) [] := by
  refine ⟨C, ?_, h1, h2, fun j b hj => by simp at hj⟩
  rw [← Go.Deep.nblk_alloc wr o]
  exact heap_alloc_new _ _
end Go.Proofs.YtngdcnljbfkneaaGreatFmt
