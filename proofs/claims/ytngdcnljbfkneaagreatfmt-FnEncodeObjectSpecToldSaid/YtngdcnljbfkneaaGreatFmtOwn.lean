/- Laws over any program: a slice of bytes that the call owns: appended to by a string or by bytes, made empty with room, turned into a string; texts mapped byte by byte. -/
import Derived.WalkKit
import Derived.Lib.AppendStr
import Derived.Lib.ItoaMem
import Derived.Lib.UnsafeStr
import Derived.Deep.Heap
import Derived.Lib.ItoaWalk
import Derived.OwnWalk
import Derived.Below
import Derived.Laws.IdiomStrings
namespace Go.Own
open Go.RowKit

/-- v owns the bytes l, in blocks from B on; below B all is as in W. -/
structure Buf (e : TypeId) (B : Nat) (W w : World) (v : Value) (l : List UInt8) : Prop where
  row : w.ownsRow B e 1 v l.length (Lib.byteCells l)
  below : Below B W w
  base : B ≤ w.heap.size
theorem byteCells_append (l m : List UInt8) : Lib.byteCells (l ++ m) = Lib.byteCells l ++ Lib.byteCells m := by simp [Lib.byteCells]
theorem byteCells_len (l : List UInt8) : (Lib.byteCells l).length = l.length := by simp [Lib.byteCells]
theorem strCells_eq (s : ByteArray) : Lib.strCells s = Lib.byteCells s.data.toList := rfl
theorem Buf.nil {e : TypeId} {B : Nat} {W w : World} (h : Below B W w) (hB : B ≤ w.heap.size) : Buf e B W w (.slice none 0 0) [] := ⟨World.ownsRow_nil _ _ _ _, h, hB⟩
theorem Buf.alloc {e : TypeId} {B : Nat} {W w : World} {v : Value} {l : List UInt8} (h : Buf e B W w v l) (o : Obj) : Buf e B W (w.alloc o) v l :=
  ⟨h.row.alloc o, h.below.alloc h.base o, Nat.le_trans h.base (by rw [Go.Deep.nblk_alloc]; omega)⟩
theorem ownsRow_later {w w' : World} {B : Nat} {e : TypeId} {sz : Nat} {v : Value} {n : Nat} {xs : List Value} (h : w.ownsRow B e sz v n xs) (hb : Below w.heap.size w w') : w'.ownsRow B e sz v n xs :=
  h.kept (row := none) ⟨hb.os, hb.tape, hb.output, hb.size, fun k hk _ => hb.block k hk⟩ (by
    cases hv : v.ownBlock with
    | none => exact Or.inl rfl
    | some k => exact Or.inr (by simp))
theorem Buf.later {e : TypeId} {B : Nat} {W w w' : World} {v : Value} {l : List UInt8} (h : Buf e B W w v l) (hb : Below w.heap.size w w') : Buf e B W w' v l :=
  ⟨ownsRow_later h.row hb, h.below.trans (hb.mono h.base), Nat.le_trans h.base hb.size⟩
theorem Buf.grown {e : TypeId} {B : Nat} {W w w' : World} {v v' : Value} {l m : List UInt8} (h : Buf e B W w v l) (n : Nat) (hn : n = l.length + m.length) (hr : w'.ownsRow B e 1 v' n (Lib.byteCells l ++ Lib.byteCells m)) (hg : w.grownBy w' v.ownBlock) :
    Buf e B W w' v' (l ++ m) := by
  refine ⟨?_, h.below.grown hg h.base fun k hk => (h.row.lt k hk).1, Nat.le_trans h.base hg.size⟩
  rw [byteCells_append, List.length_append, ← hn]
  exact hr

section
variable {P : Program} {w : World} {ops : Array Oper} {rest : List Oper} {o : Oper} {a : Act} {Q : Exit → Act → World → Prop}

theorem wpList_buf_str (hgd : o.guard = none) (sl x : Operand) (t u : TypeId)
    (ho : o.op = .call { callee := .builtin .append, args := #[sl, x], argTypes := #[t, u] })
    (e : TypeId) (ht : P.underlying t = some (.slice e)) (hu : P.underlying u = some .string) (hinfo : (P.info? e).map (fun i => (i.zero, i.size, i.bytes)) = some (some (.int .u8 0), 1, 1))
    (B : Nat) (W : World) (v : Value) (l : List UInt8) (hs : a.eval sl = v) (hb : Buf e B W w v l) (s : ByteArray) (m : List UInt8) (hx : a.eval x = .string s) (hm : s.data.toList = m) (hlen : l.length + m.length ≤ 140737488355328)
    (h : ∀ v' w', Buf e B W w' v' (l ++ m) → wpList P ops Q rest (a.put o.dst v') w') : wpList P ops Q (o :: rest) a w := by
  obtain ⟨i, hi, hz, h1, h2⟩ := info_parts hinfo
  have hsz : s.size = m.length := by rw [← hm]; rfl
  refine Lib.wpList_append_own_string w hgd sl x t u ho B e i ht hu hi hz h1 h2 v l.length (Lib.byteCells l) hs hb.row s hx (by rw [hsz]; unfold maxLen; omega) (by rw [hsz]; exact hlen) hb.base fun v' w' hr hg _ => h v' w' ?_
  refine hb.grown (l.length + s.size) (by rw [hsz]) ?_ hg
  rw [← hm, ← strCells_eq]
  exact hr

theorem wpList_buf_bytes (hgd : o.guard = none) (sl x : Operand) (t : TypeId)
    (ho : o.op = .call { callee := .builtin .append, args := #[sl, x], argTypes := #[t, t] })
    (e : TypeId) (ht : P.underlying t = some (.slice e)) (hinfo : (P.info? e).map (fun i => (i.zero, i.size, i.bytes)) = some (some (.int .u8 0), 1, 1))
    (B : Nat) (W : World) (v : Value) (l : List UInt8) (hs : a.eval sl = v) (hb : Buf e B W w v l) (ad : Addr) (n c : Nat) (m : List UInt8) (hx : a.eval x = .slice (some ad) n c) (hn : n = m.length)
    (hc : ∀ j (b : UInt8), m[j]? = some b → w.cell? (ad.add j) = some (.int .u8 (b.toNat : Int))) (hlen : l.length + m.length ≤ 140737488355328)
    (h : ∀ v' w', Buf e B W w' v' (l ++ m) → wpList P ops Q rest (a.put o.dst v') w') : wpList P ops Q (o :: rest) a w := by
  obtain ⟨i, hi, hz, h1, h2⟩ := info_parts hinfo
  subst hn
  refine wpList_append_own w hgd sl x t ho B e i (.int .u8 0) 1 1 ht hi hz h1 h2 rfl (by decide) v l.length (Lib.byteCells l) hs hb.row ad m.length c (Lib.byteCells m) hx (by rw [byteCells_len, Nat.mul_one]) ?_ ?_
    (by unfold maxLen; omega) (by omega) hb.base fun v' w' hr hg _ => h v' w' (hb.grown (l.length + m.length) rfl hr hg)
  · intro j u hj
    simp only [Lib.byteCells, List.getElem?_map, Option.map_eq_some_iff] at hj
    obtain ⟨b, hb', rfl⟩ := hj
    exact hc j b hb'
  · intro u hu
    simp only [Lib.byteCells, List.mem_map] at hu
    obtain ⟨b, _, rfl⟩ := hu
    rfl

theorem wpList_make_buf (hg : o.guard = none) (lo co : Operand) (t : TypeId) (hop : o.op = Op.makeSlice t lo co)
    (e : TypeId) (ht : P.underlying t = some (.slice e)) (hinfo : (P.info? e).map (fun i => (i.zero, i.size, i.bytes)) = some (some (.int .u8 0), 1, 1))
    (B : Nat) (W : World) (hb : Below B W w) (hB : B ≤ w.heap.size) (kl kc : IntKind) (C : Int) (n : Nat) (hl : a.eval lo = .int kl 0) (hc : a.eval co = .int kc C) (hC : C = (n : Int)) (hn : n ≤ 281474976710656)
    (hK : ∀ v' w', Buf e B W w' v' [] → wpList P ops Q rest (a.put o.dst v') w') : wpList P ops Q (o :: rest) a w := by
  obtain ⟨i, hi, hz, h1, h2⟩ := info_parts hinfo
  refine wpList_make_own w hg lo co t hop B e i (.int .u8 0) 1 ht hi hz h1 kl kc C n hl hc hC (by rw [h2, Nat.one_mul]; exact hn) (by unfold maxLen; omega) hB fun w' hr hgr => hK _ w' ?_
  exact ⟨hr, hb.grown hgr hB (by intro k hk; cases hk), Nat.le_trans hB hgr.size⟩
end

theorem convert_nil {P : Program} (w : World) (src dst e : TypeId) (c : Nat) (hs : P.underlying src = some (.slice e)) (he : P.underlying e = some (.int .u8)) (hd : P.underlying dst = some .string) :
    (convert src dst (.slice none 0 c)).run P w = .ok (.string ⟨#[]⟩) w := by
  rw [run_convert_bytes_string w src dst e none 0 c hs he hd]
  simp [Conv.bytesToString]
  rfl
theorem cells_row {w : World} {g : Nat} {cur : Array Value} {T : TypeId} {fr : Nat × Nat} {l : List UInt8} (hg : w.heap[g]? = some (.cells cur T fr)) (htk : cur.toList.take l.length = Lib.byteCells l) :
    ∀ j (hj : j < l.length), w.cell? ((⟨g, 0, none⟩ : Addr).add j) = some (.int .u8 (l[j].toNat : Int)) := fun j hj => by
  have h1 : cur.toList[j]? = some (.int .u8 (l[j].toNat : Int)) := by
    have h2 : (cur.toList.take l.length)[j]? = (Lib.byteCells l)[j]? := by rw [htk]
    rw [List.getElem?_take_of_lt hj] at h2
    rw [h2]
    simp [Lib.byteCells, hj]
  rw [Lib.add_plain, Nat.zero_add]
  rw [Array.getElem?_toList] at h1
  simp [World.cell?, hg, h1]
/-- 'string(b)' of such a slice. -/
theorem own_text {P : Program} {w : World} (src dst e : TypeId) (hs : P.underlying src = some (.slice e)) (he : P.underlying e = some (.int .u8)) (hd : P.underlying dst = some .string)
    {B : Nat} {v : Value} {n : Nat} {l : List UInt8} (h : w.ownsRow B e 1 v n (Lib.byteCells l)) : (convert src dst v).run P w = .ok (.string ⟨l.toArray⟩) w := by
  have hl := h.1
  rw [byteCells_len, Nat.mul_one] at hl
  subst hl
  rcases h.2 with ⟨rfl, h0⟩ | ⟨g, cap, cur, rfl, _, hg, _, _, _, htake⟩
  · obtain rfl : l = [] := List.eq_nil_of_length_eq_zero h0
    exact convert_nil w src dst e 0 hs he hd
  · rw [Nat.mul_one] at htake
    exact run_convert_bytes_back w src dst e ⟨g, 0, none⟩ cap l hs he hd (cells_row hg htake)

theorem new_cells (w : World) (C : Array Value) (t : TypeId) (m : List UInt8) (hC : C.toList = Lib.byteCells m) : ∀ j (b : UInt8), m[j]? = some b → (w.alloc (.cells C t)).cell? ((⟨w.heap.size, 0, none⟩ : Addr).add j) = some (.int .u8 (b.toNat : Int)) := by
  intro j b hj
  rw [Lib.add_plain, Nat.zero_add, World.cell?_alloc_mark, ← Array.getElem?_toList, hC]
  simp [Lib.byteCells, hj]

theorem run_add_str {P : Program} (t : TypeId) (a b c : ByteArray) (h : a.size + b.size ≤ 9223372036854775807) (hc : a ++ b = c) (w : World) : (binOp .add t (.string a) (.string b)).run P w = .ok (.string c) w := by
  subst hc
  simp [binOp, run_string_add_sum w a b h]

/-! ### Texts mapped byte by byte -/
theorem flat_take (f : UInt8 → List UInt8) (l : List UInt8) (k : Nat) (h : k < l.length) : (l.take (k + 1)).flatMap f = (l.take k).flatMap f ++ f (l.getD k 0) := by
  have e : l.take (k + 1) = l.take k ++ [l.getD k 0] := by
    rw [List.take_add_one, List.getElem?_eq_getElem h, List.getD_eq_getElem?_getD, List.getElem?_eq_getElem h]; rfl
  rw [e, List.flatMap_append]
  simp
theorem flat_len (f : UInt8 → List UInt8) (c : Nat) (hf : ∀ b, (f b).length ≤ c) : ∀ l : List UInt8, (l.flatMap f).length ≤ c * l.length
  | [] => by simp
  | b :: l => by
    have h1 := flat_len f c hf l
    have h2 := hf b
    rw [List.flatMap_cons, List.length_append, List.length_cons, Nat.mul_succ]
    omega
theorem flat_take_len (f : UInt8 → List UInt8) (c : Nat) (hf : ∀ b, (f b).length ≤ c) (l : List UInt8) (k : Nat) : ((l.take k).flatMap f).length ≤ c * k :=
  Nat.le_trans (flat_len f c hf _) (Nat.mul_le_mul_left _ (by rw [List.length_take]; omega))
theorem get_lt (s : ByteArray) (i : Nat) : ((s.data.toList.getD i 0).toNat : Int) < 256 := by
  have := (s.data.toList.getD i 0).toNat_lt
  omega
end Go.Own
