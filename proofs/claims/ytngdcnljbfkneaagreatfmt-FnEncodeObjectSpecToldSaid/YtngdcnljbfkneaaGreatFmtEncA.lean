/- Contracts: strconv.AppendInt at base 10 onto the encoder's own buffer (a slice that does not begin at its block's head). -/
import Derived.Test.YtngdcnljbfkneaaGreatFmtFacts
import Derived.Test.YtngdcnljbfkneaaGreatFmtOwn
import Derived.Test.YtngdcnljbfkneaaGreatFmtShelfE
import Derived.Handy
import Derived.WalkSpells
import Derived.WalkSmall
import Derived.Deep.QuietTactic
import Derived.BigQuiet
import Derived.Lib.Hide
import Derived.Lib.AppendIntMem
import Derived.Lib.ItoaMem
import Derived.Lib.ItoaWalk
import Derived.OwnWalk
import Derived.Laws.Tables
import Derived.Laws.CopyOwn
namespace Go.Proofs.YtngdcnljbfkneaaGreatFmt
open Go.RowKit Go.Deep Go.Lib Go.Sort

/-- w' is w with new blocks and with writes to block eb alone. -/
structure Only (eb : Nat) (w w' : World) : Prop where
  os : w'.os = w.os
  tape : w'.tape = w.tape
  output : w'.output = w.output
  size : w.heap.size ≤ w'.heap.size
  block : ∀ k, k < w.heap.size → k ≠ eb → w'.heap[k]? = w.heap[k]?
theorem Only.refl (eb : Nat) (w : World) : Only eb w w := ⟨rfl, rfl, rfl, Nat.le_refl _, fun _ _ _ => rfl⟩
theorem Only.trans {eb : Nat} {a b c : World} (h : Only eb a b) (k : Only eb b c) : Only eb a c :=
  ⟨k.os.trans h.os, k.tape.trans h.tape, k.output.trans h.output, Nat.le_trans h.size k.size, fun i hi hne => (k.block i (Nat.lt_of_lt_of_le hi h.size) hne).trans (h.block i hi hne)⟩
theorem Only.of_below {eb : Nat} {a b : World} (h : Below a.heap.size a b) : Only eb a b := ⟨h.os, h.tape, h.output, h.size, fun k hk _ => h.block k hk⟩
theorem Only.of_setRow {eb : Nat} {w : World} (cs : Array Value) : Only eb w (w.setRow eb cs) := ⟨rfl, rfl, rfl, by rw [setRow_size]; exact Nat.le_refl _, fun k _ hne => setRow_other w eb k cs hne⟩
theorem Only.below {eb B : Nat} {w w' : World} (h : Only eb w w') (h1 : B ≤ eb) (h2 : B ≤ w.heap.size) : Below B w w' := ⟨h.os, h.tape, h.output, h.size, fun k hk => h.block k (by omega) (by omega)⟩
theorem Only.cell {eb : Nat} {w w' : World} (h : Only eb w w') {p : Addr} (hp : p.block < w.heap.size) (hne : p.block ≠ eb) : w'.cell? p = w.cell? p := World.cell?_of_block (w := w) (h.block p.block hp hne)

/-- Block eb holds an encoder: its writer, and 64 bytes of which the first ones are l. -/
def Enc (T : TypeId) (eb : Nat) (ifc : Value) (w : World) (l : List UInt8) : Prop :=
  ∃ cur : Array Value, w.heap[eb]? = some (.cells cur T (0, 0)) ∧ cur.size = 65 ∧ cur[0]? = some ifc ∧ ∀ j (b : UInt8), l[j]? = some b → cur[1 + j]? = some (.int .u8 (b.toNat : Int))
theorem Enc.lt {T : TypeId} {eb : Nat} {ifc : Value} {w : World} {l : List UInt8} (h : Enc T eb ifc w l) : eb < w.heap.size := by
  obtain ⟨cur, hb, _⟩ := h
  exact (Array.getElem?_eq_some_iff.1 hb).1
theorem Enc.kept {T : TypeId} {eb : Nat} {ifc : Value} {w w' : World} {l : List UInt8} (h : Enc T eb ifc w l) (hb : w'.heap[eb]? = w.heap[eb]?) : Enc T eb ifc w' l := by
  obtain ⟨cur, h0, h1⟩ := h
  exact ⟨cur, hb.trans h0, h1⟩
theorem Enc.later {T : TypeId} {eb : Nat} {ifc : Value} {w w' : World} {l : List UInt8} (h : Enc T eb ifc w l) (hb : Below w.heap.size w w') : Enc T eb ifc w' l := h.kept (hb.block eb h.lt)
theorem Enc.writer {T : TypeId} {eb : Nat} {ifc : Value} {w : World} {l : List UInt8} (h : Enc T eb ifc w l) : w.cell? ⟨eb, 0, none⟩ = some ifc := by
  obtain ⟨cur, hb, _, h0, _⟩ := h
  rw [Lib.cell_of_heap hb, h0]
theorem Enc.bytes {T : TypeId} {eb : Nat} {ifc : Value} {w : World} {l : List UInt8} (h : Enc T eb ifc w l) : ∀ j (b : UInt8), l[j]? = some b → w.cell? ((⟨eb, 1, none⟩ : Addr).add j) = some (.int .u8 (b.toNat : Int)) := by
  obtain ⟨cur, hb, _, _, h1⟩ := h
  intro j b hj
  rw [Lib.add_plain, Lib.cell_of_heap hb, h1 j b hj]
theorem Enc.empty {T : TypeId} {eb : Nat} {ifc : Value} {w : World} {l : List UInt8} (h : Enc T eb ifc w l) : Enc T eb ifc w [] := by
  obtain ⟨cur, hb, h1, h2, _⟩ := h
  exact ⟨cur, hb, h1, h2, fun j b hj => by simp at hj⟩

theorem run_app_off {P : Program} (w : World) (t ty e te : TypeId) (i : TypeInfo) (ht : P.underlying t = some (.slice e)) (hi : P.info? e = some i) (hs : i.size = 1)
    (g off sLen sCap : Nat) (cur : Array Value) (hg : w.heap[g]? = some (.cells cur te (0, 0)))
    (a : Addr) (m c : Nat) (news : List Value) (hl : news.length = m) (hnews : ∀ j u, news[j]? = some u → w.cell? (a.add j) = some u) (h1 : ∀ u ∈ news, u.oneCell' = true)
    (hroom : sLen + m ≤ sCap) (hfit : off + sLen + m ≤ cur.size) :
    (Builtin.append_ #[t, t] ty #[.slice (some ⟨g, off, none⟩) sLen sCap, .slice (some a) m c]).run P w =
      .ok (.slice (some ⟨g, off, none⟩) (sLen + m) sCap) (w.setRow g (cur.toList.take (off + sLen) ++ news ++ cur.toList.drop (off + sLen + m)).toArray) := by
  have hf := run_firstCells_some (P := P) w i.size m a m c news (by rw [hl, hs, Nat.mul_one]) hnews
  have hst := run_storeCells_at P g (off + sLen) te news 0 cur w hg (by simp; omega) h1
  simp only [Nat.add_zero, hl] at hst
  simp [Builtin.append_, run_underlying ht, sizeOf, typeInfo, hi, hs, Builtin.lenOf, hroom, Lib.add_plain]
  rw [hs] at hf
  simp [hf, hst]
theorem run_app_off_str {P : Program} (w : World) (t u ty e te : TypeId) (i : TypeInfo) (ht : P.underlying t = some (.slice e)) (hu : P.underlying u = some .string) (hi : P.info? e = some i) (hs : i.size = 1)
    (g off sLen sCap : Nat) (cur : Array Value) (hg : w.heap[g]? = some (.cells cur te (0, 0))) (s : ByteArray)
    (hroom : sLen + s.size ≤ sCap) (hfit : off + sLen + s.size ≤ cur.size) :
    (Builtin.append_ #[t, u] ty #[.slice (some ⟨g, off, none⟩) sLen sCap, .string s]).run P w =
      .ok (.slice (some ⟨g, off, none⟩) (sLen + s.size) sCap) (w.setRow g (cur.toList.take (off + sLen) ++ strCells s ++ cur.toList.drop (off + sLen + s.size)).toArray) := by
  have hf := run_firstCells_string (P := P) w 1 s
  have hst := run_storeCells_at P g (off + sLen) te (strCells s) 0 cur w hg (by simpa [strCells_length] using hfit) (strCells_oneCell s)
  simp only [Nat.add_zero, strCells_length] at hst
  simp [Builtin.append_, run_underlying ht, run_underlying hu, sizeOf, typeInfo, hi, hs, Builtin.lenOf, hroom, hf, Lib.add_plain, hst]

theorem Enc.put {T : TypeId} {eb : Nat} {ifc : Value} {w : World} {l : List UInt8} (m : List UInt8) {cur : Array Value} (hb : w.heap[eb]? = some (.cells cur T (0, 0))) (h1 : cur.size = 65) (h2 : cur[0]? = some ifc)
    (h3 : ∀ j (b : UInt8), l[j]? = some b → cur[1 + j]? = some (.int .u8 (b.toNat : Int))) (hfit : l.length + m.length ≤ 64) :
    Enc T eb ifc (w.setRow eb (cur.toList.take (1 + l.length) ++ Lib.byteCells m ++ cur.toList.drop (1 + l.length + m.length)).toArray) (l ++ m) := by
  have hlm : (Lib.byteCells m).length = m.length := Own.byteCells_len m
  have hcl : cur.toList.length = 65 := by simpa using h1
  have htl : (cur.toList.take (1 + l.length)).length = 1 + l.length := by rw [List.length_take]; omega
  refine ⟨_, setRow_heap w eb cur _ T (0, 0) hb, ?_, ?_, fun j b hj => ?_⟩
  · simp only [List.size_toArray, List.length_append, hlm, htl, List.length_drop, hcl]
    omega
  · rw [List.getElem?_toArray, List.append_assoc, List.getElem?_append_left (by omega), List.getElem?_take_of_lt (by omega), Array.getElem?_toList]
    exact h2
  · rw [List.getElem?_toArray]
    by_cases c : j < l.length
    · rw [List.append_assoc, List.getElem?_append_left (by omega), List.getElem?_take_of_lt (by omega), Array.getElem?_toList]
      rw [List.getElem?_append_left c] at hj
      exact h3 j b hj
    · rw [List.getElem?_append_right (by omega)] at hj
      have hjm : j - l.length < m.length := (List.getElem?_eq_some_iff.1 hj).1
      rw [List.getElem?_append_left (by rw [List.length_append]; omega), List.getElem?_append_right (by omega), htl, show 1 + j - (1 + l.length) = j - l.length from by omega]
      simp [Lib.byteCells, hj]

section
variable {P : Program} {w : World} {ops : Array Oper} {rest : List Oper} {o : Oper} {a : Act} {Q : Exit → Act → World → Prop}
theorem wpList_enc_bytes (hgd : o.guard = none) (sl x : Operand) (t : TypeId) (ho : o.op = .call { callee := .builtin .append, args := #[sl, x], argTypes := #[t, t] })
    (e : TypeId) (ht : P.underlying t = some (.slice e)) (hinfo : (P.info? e).map (fun i => (i.zero, i.size, i.bytes)) = some (some (.int .u8 0), 1, 1))
    (T : TypeId) (eb : Nat) (ifc : Value) (l : List UInt8) (k : Nat) (hs : a.eval sl = .slice (some ⟨eb, 1, none⟩) k 64) (hk : k = l.length) (hE : Enc T eb ifc w l)
    (ad : Addr) (n c : Nat) (m : List UInt8) (hx : a.eval x = .slice (some ad) n c) (hn : n = m.length) (hc : ∀ j (b : UInt8), m[j]? = some b → w.cell? (ad.add j) = some (.int .u8 (b.toNat : Int))) (hfit : l.length + m.length ≤ 64)
    (h : ∀ w', Enc T eb ifc w' (l ++ m) → Only eb w w' → wpList P ops Q rest (a.put o.dst (.slice (some ⟨eb, 1, none⟩) (l.length + m.length) 64)) w') : wpList P ops Q (o :: rest) a w := by
  obtain ⟨i, hi, hz, h1, h2⟩ := info_parts hinfo
  obtain ⟨cur, hb, hcs, hc0, hcl⟩ := hE
  subst hk hn
  have hr := run_app_off (P := P) w t o.type e T i ht hi h1 eb 1 l.length 64 cur hb ad m.length c (Lib.byteCells m) (Own.byteCells_len m) (fun j u hj => by
    simp only [Lib.byteCells, List.getElem?_map, Option.map_eq_some_iff] at hj
    obtain ⟨b, hb', rfl⟩ := hj
    exact hc j b hb') (fun u hu => by
    simp only [Lib.byteCells, List.mem_map] at hu
    obtain ⟨b, _, rfl⟩ := hu
    rfl) hfit (by omega)
  refine wpList_plain hgd fun K hK => ?_
  unfold Oper.wp execOp
  simp only [ho, resolve, invoke, builtin, Sem.run_bind, Sem.run_pure, Result.andThen_ok, List.map_toArray, List.map_cons, List.map_nil, hs, hx, hr]
  exact hK _ _ (h _ (Enc.put m hb hcs hc0 hcl hfit) (Only.of_setRow _))
theorem wpList_enc_str (hgd : o.guard = none) (sl x : Operand) (t u : TypeId) (ho : o.op = .call { callee := .builtin .append, args := #[sl, x], argTypes := #[t, u] })
    (e : TypeId) (ht : P.underlying t = some (.slice e)) (hu : P.underlying u = some .string) (hinfo : (P.info? e).map (fun i => (i.zero, i.size, i.bytes)) = some (some (.int .u8 0), 1, 1))
    (T : TypeId) (eb : Nat) (ifc : Value) (l : List UInt8) (k : Nat) (hs : a.eval sl = .slice (some ⟨eb, 1, none⟩) k 64) (hk : k = l.length) (hE : Enc T eb ifc w l)
    (s : ByteArray) (m : List UInt8) (hx : a.eval x = .string s) (hm : s.data.toList = m) (hfit : l.length + m.length ≤ 64)
    (h : ∀ w', Enc T eb ifc w' (l ++ m) → Only eb w w' → wpList P ops Q rest (a.put o.dst (.slice (some ⟨eb, 1, none⟩) (l.length + m.length) 64)) w') : wpList P ops Q (o :: rest) a w := by
  obtain ⟨i, hi, hz, h1, h2⟩ := info_parts hinfo
  obtain ⟨cur, hb, hcs, hc0, hcl⟩ := hE
  subst hk
  have hsz : s.size = m.length := by rw [← hm]; rfl
  have hr := run_app_off_str (P := P) w t u o.type e T i ht hu hi h1 eb 1 l.length 64 cur hb s (by omega) (by omega)
  rw [hsz, Own.strCells_eq, hm] at hr
  refine wpList_plain hgd fun K hK => ?_
  unfold Oper.wp execOp
  simp only [ho, resolve, invoke, builtin, Sem.run_bind, Sem.run_pure, Result.andThen_ok, List.map_toArray, List.map_cons, List.map_nil, hs, hx, hr]
  exact hK _ _ (h _ (Enc.put m hb hcs hc0 hcl hfit) (Only.of_setRow _))
end

/-! ### internal/strconv.AppendUint, AppendInt at base 10 -/
theorem info_u8e : (Tryz.prog.info? 5).map (fun i => (i.zero, i.size, i.bytes)) = some (some (.int .u8 0), 1, 1) := by kernel_rfl
def AppEnd (T : TypeId) (eb : Nat) (ifc : Value) (l : List UInt8) (W : World) (e : Ending) (w' : World) : Prop :=
  e = .returned (.slice (some ⟨eb, 1, none⟩) l.length 64) ∧ Enc T eb ifc w' l ∧ Only eb W w'
theorem dec_len (u : Nat) (h : u < 18446744073709551616) : (decDigits u).length ≤ 20 := by
  rw [decDigits_length]
  by_cases h10 : u < 10
  · rw [nDigits_small h10]; omega
  · have := numDigits_eq u (by omega) h
    split at this <;> omega

set_option maxHeartbeats 2000000 in
set_option maxRecDepth 100000 in
theorem appU_small (T : TypeId) (eb : Nat) (ifc : Value) (l : List UInt8) (u : Nat) (hu : u < 100) (hl : l.length ≤ 1) (W : World) (hE : Enc T eb ifc W l) :
    Calls Tryz.prog 68 #[.slice (some ⟨eb, 1, none⟩) l.length 64, .int .u64 u, .int .i64 10] W (AppEnd T eb ifc (l ++ decDigits u) W) := by
  have hd := dec_len u (by omega)
  obtain ⟨m, hm⟩ : ∃ m, decDigits u = m := ⟨_, rfl⟩
  rw [hm] at hd ⊢
  obtain ⟨n, hn⟩ : ∃ n, l.length = n := ⟨_, rfl⟩
  rw [hn]
  have hS := Tryz.internal_strconv_small u hu
  rw [hm] at hS
  obtain ⟨z, hz⟩ : ∃ z, (⟨m.toArray⟩ : ByteArray) = z := ⟨_, rfl⟩
  rw [hz] at hS
  have hzl : z.data.toList = m := by rw [← hz]
  have HD := Lib.hid hd
  have HE := Lib.hid hE
  have HL := Lib.hid hl
  have HZ := Lib.hid hzl
  have HN := Lib.hid hn
  have iu : (u : Int) < 100 := by omega
  clear hd hE hm hz hl hzl hn
  go_enter Tryz.func68, Tryz.ntmps68
  go_wp2_with (first
    | (go_at_call 82; refine (hS _).mono ?_; rintro e w' ⟨rfl, rfl⟩)
    | (at_builtin; refine wpList_enc_str rfl _ _ 33 9 rfl 5 Tryz.underlying33 Tryz.underlying9 info_u8e T eb ifc l _ rfl HN.out.symm HE.out z m rfl HZ.out (by have := HD.out; have := HL.out; omega) ?_))
  intro w1 hE1 hO1
  have H1 := Lib.hid hE1
  have H2 := Lib.hid hO1
  clear hE1 hO1
  go_wp2
  go_ret
  exact ⟨by rw [List.length_append]; rfl, H1.out, H2.out⟩

set_option maxHeartbeats 4000000 in
set_option maxRecDepth 100000 in
theorem appU_big (T : TypeId) (eb : Nat) (ifc : Value) (l : List UInt8) (u : Nat) (hu : 100 ≤ u) (hu64 : u < 18446744073709551616) (hl : l.length ≤ 1) (W : World) (hE : Enc T eb ifc W l)
    (htab : Lib.TabIs Tryz.prog W "internal/strconv.uint64pow10" .u64 Lib.pow10Tab) :
    Calls Tryz.prog 68 #[.slice (some ⟨eb, 1, none⟩) l.length 64, .int .u64 u, .int .i64 10] W (AppEnd T eb ifc (l ++ decDigits u) W) := by
  have hu1 : 1 ≤ u := by omega
  have hnd20 : nDigits u ≤ 20 := by have := numDigits_eq u hu1 hu64; split at this <;> omega
  have hal : Tryz.prog.arrayLen 48 = 24 := by kernel_rfl
  have hsl : ∀ w, (Instr.sliceAt 48 (.pointer (some ⟨W.heap.size, 0, none⟩)) none (some (.int .i64 (nDigits u : Int))) none).run Tryz.prog w = .ok (.slice (some ⟨W.heap.size, 0, none⟩) (nDigits u) 24) w := fun w => by
    rw [run_sliceAt_array_h w 48 ⟨W.heap.size, 0, none⟩ (by kernel_rfl) .i64 (nDigits u : Int) (by omega) (by rw [hal]; omega)]
    go_simp
  have hH0 := holds_zero0 W 48 (nDigits u) (by omega)
  have hfmt := Tryz.internal_strconv_formatBase10 W.heap.size 0 24 u (Array.replicate (nDigits u) 0) (W.alloc (.cells zeros24 48)) hH0 (by rw [Array.size_replicate]; exact lt_pow_nDigits u) hu64 (by rw [Array.size_replicate]; omega)
  rw [Array.size_replicate] at hfmt
  have HH0 := Lib.hid hH0
  have HE := Lib.hid hE
  have HL := Lib.hid hl
  have iu : (100 : Int) ≤ (u : Int) := by omega
  have heb := hE.lt
  obtain ⟨n, hn⟩ : ∃ n, l.length = n := ⟨_, rfl⟩
  rw [hn]
  have HN := Lib.hid hn
  clear hH0 hal hE hl hn
  go_enter Tryz.func68, Tryz.ntmps68
  go_wp2_with (go_at_call 83; refine (Tryz.internal_strconv_numDigits u hu1 hu64 _ (Lib.tabIs_alloc htab _)).mono ?_; rintro e w' ⟨rfl, rfl⟩)
  refine hfmt.mono ?_
  rintro e w' ⟨rfl, k, v', dk, rfl, hF⟩
  have hcells : ∀ j (b : UInt8), (decDigits u)[j]? = some b → ((putRow (fun (b : UInt8) => Value.int .u8 (b.toNat : Int)) (W.alloc (.cells zeros24 48)) W.heap.size 0 dk).drewN k).cell? ((⟨W.heap.size, 0, none⟩ : Addr).add j) = some (.int .u8 (b.toNat : Int)) := by
    intro j b hj
    obtain ⟨hjl, hjb⟩ := List.getElem?_eq_some_iff.1 hj
    rw [← hjb, row_is_numeral hF j hjl, Lib.add_plain, World.cell?_drewN]
    exact cell?_putRow (fun (b : UInt8) => Value.int .u8 (b.toNat : Int)) _ W.heap.size 0 _ dk HH0.out (by rw [hF.size, Array.size_replicate]) j (by rw [hF.size]; rw [decDigits_length] at hjl; exact hjl)
  obtain ⟨os, eo⟩ := fin_at W (.cells zeros24 48) dk k 0
  have hnx2 : Below W.heap.size W ((putRow (fun (b : UInt8) => Value.int .u8 (b.toNat : Int)) (W.alloc (.cells zeros24 48)) W.heap.size 0 dk).drewN k) := by rw [eo]; exact below_grow W.heap.size W (Nat.le_refl _) k os
  generalize (putRow (fun (b : UInt8) => Value.int .u8 (b.toNat : Int)) (W.alloc (.cells zeros24 48)) W.heap.size 0 dk).drewN k = W2 at hcells hnx2 ⊢
  have HC := Lib.hid hcells
  have HX := Lib.hid hnx2
  clear eo HH0 hfmt hF hcells hnx2
  go_wp2_with (at_builtin; refine wpList_enc_bytes rfl _ _ 33 rfl 5 Tryz.underlying33 info_u8e T eb ifc l _ rfl HN.out.symm (HE.out.later HX.out) ⟨W.heap.size, 0, none⟩ (nDigits u) 24 (decDigits u) rfl (by rw [decDigits_length]) HC.out (by rw [decDigits_length]; have := HL.out; omega) ?_)
  intro w1 hE1 hO1
  have H1 := Lib.hid hE1
  have H2 := Lib.hid ((Only.of_below (eb := eb) HX.out).trans hO1)
  clear hE1 hO1
  go_wp2
  go_ret
  exact ⟨by rw [List.length_append]; rfl, H1.out, H2.out⟩

theorem appU_any (T : TypeId) (eb : Nat) (ifc : Value) (l : List UInt8) (u : Nat) (hu64 : u < 18446744073709551616) (hl : l.length ≤ 1) (W : World) (hE : Enc T eb ifc W l)
    (htab : Lib.TabIs Tryz.prog W "internal/strconv.uint64pow10" .u64 Lib.pow10Tab) :
    Calls Tryz.prog 68 #[.slice (some ⟨eb, 1, none⟩) l.length 64, .int .u64 u, .int .i64 10] W (AppEnd T eb ifc (l ++ decDigits u) W) := by
  by_cases h : u < 100
  · exact appU_small T eb ifc l u h hl W hE
  · exact appU_big T eb ifc l u (by omega) hu64 hl W hE htab

set_option maxHeartbeats 2000000 in
set_option maxRecDepth 100000 in
theorem appI_any (T : TypeId) (B eb : Nat) (ifc : Value) (n : Int) (h0 : -9223372036854775808 ≤ n) (h1 : n ≤ 9223372036854775807) (W : World) (hE : Enc T eb ifc W []) (hB : B ≤ eb)
    (htab : Lib.TabBelow Tryz.prog B W "internal/strconv.uint64pow10" .u64 Lib.pow10Tab) :
    Calls Tryz.prog 58 #[.slice (some ⟨eb, 1, none⟩) 0 64, .int .i64 n, .int .i64 10] W (AppEnd T eb ifc (itoa n) W) := by
  have HE := Lib.hid hE
  clear hE
  by_cases hneg : n < 0
  · obtain ⟨u, rfl⟩ : ∃ u : Nat, n = -(u : Int) := ⟨n.natAbs, by omega⟩
    have hu1 : 1 ≤ u := by omega
    have hu64 : u < 18446744073709551616 := by omega
    have hwr : IntKind.u64.wrap (-IntKind.u64.wrap (-(u : Int))) = (u : Int) := by rw [IntKind.wrap_u64, IntKind.wrap_u64]; omega
    rw [itoa_neg u hu1]
    go_enter Tryz.func58, Tryz.ntmps58
    go_wp2_with (at_builtin; refine wpList_enc_bytes rfl _ _ 33 rfl 5 Tryz.underlying33 info_u8e T eb ifc [] _ rfl rfl (HE.out.later ((Below.refl _ _).alloc (Nat.le_refl _) _)) ⟨W.heap.size, 0, none⟩ 1 1 [45] rfl rfl (Own.new_cells _ _ _ _ rfl) (by decide) ?_)
    intro w1 hE1 hO1
    have hO2 : Only eb W w1 := (Only.of_below ((Below.refl _ _).alloc (Nat.le_refl _) _)).trans hO1
    have hc := appU_any T eb ifc [45] u hu64 (by decide) w1 hE1 (htab.on (hO2.below hB (Nat.le_trans hB (Nat.le_of_lt HE.out.lt)))).here
    have HO := Lib.hid hO2
    clear hE1 hO1 hO2
    go_wp2_with (go_at_call 68; refine hc.mono ?_; rintro e w2 ⟨rfl, hE2, hO3⟩)
    go_ret
    exact ⟨rfl, hE2, HO.out.trans hO3⟩
  · obtain ⟨u, rfl⟩ : ∃ u : Nat, n = u := ⟨n.toNat, by omega⟩
    have hu64 : u < 18446744073709551616 := by omega
    rw [itoa_nonneg]
    have hc := appU_any T eb ifc [] u hu64 (by decide) W HE.out htab.here
    go_enter Tryz.func58, Tryz.ntmps58
    go_wp2_with (go_at_call 68; refine hc.mono ?_; rintro e w2 ⟨rfl, hE2, hO3⟩)
    go_ret
    exact ⟨rfl, hE2, hO3⟩
theorem appendInt_any (T : TypeId) (B eb : Nat) (ifc : Value) (n : Int) (h0 : -9223372036854775808 ≤ n) (h1 : n ≤ 9223372036854775807) (W : World) (hE : Enc T eb ifc W []) (hB : B ≤ eb)
    (htab : Lib.TabBelow Tryz.prog B W "internal/strconv.uint64pow10" .u64 Lib.pow10Tab) :
    Calls Tryz.prog 32 #[.slice (some ⟨eb, 1, none⟩) 0 64, .int .i64 n, .int .i64 10] W (AppEnd T eb ifc (itoa n) W) := by
  have hc := appI_any T B eb ifc n h0 h1 W hE hB htab
  go_enter Tryz.func32, Tryz.ntmps32
  go_wp2_with (go_at_call 58; refine hc.mono ?_; rintro e w2 ⟨rfl, hE2, hO3⟩)
  go_ret
  exact ⟨rfl, hE2, hO3⟩
end Go.Proofs.YtngdcnljbfkneaaGreatFmt
