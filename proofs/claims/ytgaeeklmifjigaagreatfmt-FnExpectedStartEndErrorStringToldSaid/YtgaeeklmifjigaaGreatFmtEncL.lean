/- Contracts: the encoder over the limited writer, at a bool and at an int; jsonLimitedMarshal where what is written fits. -/
import Derived.Test.YtgaeeklmifjigaaGreatFmtLw
import Derived.Defers
import Derived.Recover
import Derived.Laws.Pointers
namespace Go.Proofs.YtgaeeklmifjigaaGreatFmt
open Go.RowKit Go.Deep Go.Lib Go.Sort

/-- The writer as the encoder holds it. -/
def lwI (lw : Nat) : Value := .iface 115 (.pointer (some ⟨lw, 0, none⟩))
/-- Nothing but the writer, its buffer and the encoder is written. -/
structure Three (lw bb eb : Nat) (w w' : World) : Prop where
  os : w'.os = w.os
  tape : w'.tape = w.tape
  output : w'.output = w.output
  size : w.heap.size ≤ w'.heap.size
  block : ∀ k, k < w.heap.size → k ≠ lw → k ≠ bb → k ≠ eb → w'.heap[k]? = w.heap[k]?
theorem Three.trans {lw bb eb : Nat} {a b c : World} (h : Three lw bb eb a b) (k : Three lw bb eb b c) : Three lw bb eb a c :=
  ⟨k.os.trans h.os, k.tape.trans h.tape, k.output.trans h.output, Nat.le_trans h.size k.size, fun i hi h1 h2 h3 => (k.block i (Nat.lt_of_lt_of_le hi h.size) h1 h2 h3).trans (h.block i hi h1 h2 h3)⟩
theorem Two.three {lw bb : Nat} (eb : Nat) {a b : World} (h : Two lw bb a b) : Three lw bb eb a b := ⟨h.os, h.tape, h.output, h.size, fun k hk h1 h2 _ => h.block k hk h1 h2⟩
theorem Only.three (lw bb : Nat) {eb : Nat} {a b : World} (h : Only eb a b) : Three lw bb eb a b := ⟨h.os, h.tape, h.output, h.size, fun k hk _ _ h3 => h.block k hk h3⟩
theorem Three.below {lw bb eb B : Nat} {w w' : World} (h : Three lw bb eb w w') (h1 : B ≤ lw) (h2 : B ≤ bb) (h3 : B ≤ eb) (h4 : B ≤ w.heap.size) : Below B w w' := ⟨h.os, h.tape, h.output, h.size, fun k hk => h.block k (by omega) (by omega) (by omega) (by omega)⟩
def EncLEnd (lw bb eb : Nat) (l : List UInt8) (W : World) (e : Ending) (w' : World) : Prop :=
  e = .returned (.tuple #[]) ∧ Lw lw bb w' l ∧ Three lw bb eb W w'
set_option maxHeartbeats 4000000 in
set_option maxRecDepth 100000 in
theorem encL_int (B lw bb eb : Nat) (n : Int) (h0 : -9223372036854775808 ≤ n) (h1 : n ≤ 9223372036854775807) (W : World) (h : Lw lw bb W []) (hE : Enc 45 eb (lwI lw) W [])
    (hne : lw ≠ bb) (hn1 : lw ≠ eb) (hn2 : bb ≠ eb) (hB1 : B ≤ lw) (hB3 : B ≤ eb) (htab : Lib.TabBelow Tryz.prog B W "internal/strconv.uint64pow10" .u64 Lib.pow10Tab) :
    Calls Tryz.prog 30 #[.pointer (some ⟨eb, 0, none⟩), .iface 3 (.int .i64 n)] W (EncLEnd lw bb eb (itoa n) W) := by
  have hBw : B ≤ W.heap.size := Nat.le_trans hB1 (Nat.le_of_lt h.lt.1)
  have hil : (itoa n).length ≤ 21 := by
    unfold itoa
    split
    · have := dec_len n.natAbs (by omega); simp; omega
    · have := dec_len n.toNat (by omega); omega
  have hA := fun w (hw : Below W.heap.size W w) => appendInt_any 45 B eb _ n h0 h1 w (hE.later hw) hB3 (htab.on (hw.mono hBw))
  have HA : Hid (∀ w, Below W.heap.size W w → Calls Tryz.prog 32 #[.slice (some ⟨eb, 1, none⟩) 0 64, .int .i64 n, .int .i64 10] w
      fun e w' => e = .returned (.slice (some ⟨eb, 1, none⟩) (itoa n).length 64) ∧ Enc 45 eb (lwI lw) w' (itoa n) ∧ Only eb W w') := Lib.hid fun w hw =>
    (hA w hw).mono fun e w' ⟨he, hE', hO⟩ => ⟨he, hE', (Only.of_below hw).trans hO⟩
  obtain ⟨l, hl⟩ : ∃ l, itoa n = l := ⟨_, rfl⟩
  rw [hl] at hil HA ⊢
  have HW : Hid (∀ w, Enc 45 eb (lwI lw) w l → Only eb W w → Calls Tryz.prog 283 #[.pointer (some ⟨lw, 0, none⟩), .slice (some ⟨eb, 1, none⟩) l.length 64] w
      fun e w' => e = .returned (.tuple #[.int .i64 l.length, .nilIface]) ∧ Lw lw bb w' l ∧ Three lw bb eb W w') := Lib.hid fun w he ho =>
    (lw_write 45 (lwI lw) lw bb eb hne [] l (by simp; omega) w (h.kept (ho.block lw h.lt.1 hn1) (ho.block bb h.lt.2 hn2)) he).mono fun e w' ⟨h1, h2, h3⟩ =>
      ⟨h1, h2, (ho.three lw bb).trans (h3.three eb)⟩
  have hw0 : W.cell? ⟨eb, 0, none⟩ = some (.iface 115 (.pointer (some ⟨lw, 0, none⟩))) := hE.writer
  have hsl : ∀ w, (Instr.sliceAt 43 (.pointer (some ⟨eb, 1, none⟩)) none (some (.int .i64 0)) none).run Tryz.prog w = .ok (.slice (some ⟨eb, 1, none⟩) 0 64) w := fun w => by
    rw [run_sliceAt_array_h w 43 ⟨eb, 1, none⟩ (by kernel_rfl) .i64 0 (by decide) (by rw [show Tryz.prog.arrayLen 43 = 64 by kernel_rfl]; decide)]
    rw [show Tryz.prog.arrayLen 43 = 64 by kernel_rfl]
    go_simp
  clear hA h hE htab hl hBw hil
  go_enter Tryz.func30, Tryz.ntmps30
  go_wp2_with fail
  go_region_with (first
    | (go_at_call 32; refine (HA.out _ ?_).mono ?_; (first | exact Below.refl _ _ | exact (Below.refl _ _).drew | exact (Below.refl _ _).drew.drew); rintro e w1 ⟨rfl, hE1, hO1⟩; have hw1 : w1.cell? ⟨eb, 0, none⟩ = some (.iface 115 (.pointer (some ⟨lw, 0, none⟩))) := hE1.writer)
    | (go_at_call 283; refine (HW.out _ ?_ ?_).mono ?_; exact hE1; exact ⟨hO1.os, hO1.tape, hO1.output, hO1.size, hO1.block⟩; rintro e w2 ⟨rfl, hB2, hb2⟩))
  all_goals (try go_wp2_with fail)
  all_goals go_returns
  all_goals exact ⟨rfl, hB2, hb2⟩

def boolL (b : Bool) : List UInt8 := if b then [116, 114, 117, 101] else [102, 97, 108, 115, 101]
set_option maxHeartbeats 2000000 in
set_option maxRecDepth 100000 in
theorem encL_bool (lw bb eb : Nat) (x : Bool) (W : World) (h : Lw lw bb W []) (hE : Enc 45 eb (lwI lw) W [])
    (hne : lw ≠ bb) :
    Calls Tryz.prog 30 #[.pointer (some ⟨eb, 0, none⟩), .iface 4 (.bool x)] W (EncLEnd lw bb eb (boolL x) W) := by
  have hw0 : W.cell? ⟨eb, 0, none⟩ = some (.iface 115 (.pointer (some ⟨lw, 0, none⟩))) := hE.writer
  cases x with
  | true =>
    have HW := Lib.hid (lw_writeString lw bb hne [] ⟨#[116, 114, 117, 101]⟩ [116, 114, 117, 101] rfl (by decide) W h)
    clear h hE
    go_enter Tryz.func30, Tryz.ntmps30
    go_wp2_with (go_at_call 285; refine HW.out.mono ?_; rintro e w2 ⟨rfl, hB2', hb2⟩)
    go_returns
    exact ⟨rfl, hB2', hb2.three eb⟩
  | false =>
    have HW := Lib.hid (lw_writeString lw bb hne [] ⟨#[102, 97, 108, 115, 101]⟩ [102, 97, 108, 115, 101] rfl (by decide) W h)
    clear h hE
    go_enter Tryz.func30, Tryz.ntmps30
    go_wp2_with (go_at_call 285; refine HW.out.mono ?_; rintro e w2 ⟨rfl, hB2', hb2⟩)
    go_returns
    exact ⟨rfl, hB2', hb2.three eb⟩

/-- What the deferred closure lays: the first bytes of the buffer. -/
theorem lwBytes_any (lw bb : Nat) (l : List UInt8) (hl : l.length ≤ 32) (W : World) (h : Lw lw bb W l) :
    Calls Tryz.prog 71 #[.pointer (some ⟨lw, 0, none⟩)] W fun e w' => e = .returned (.slice (some ⟨bb, 0, none⟩) l.length 32) ∧ ∃ n, w' = W.drewN n := by
  have c0 : W.cell? ⟨lw, 0, none⟩ = some (.slice (some ⟨bb, 0, none⟩) 32 32) := by rw [Lib.cell_of_heap h.1]; rfl
  have c1 : W.cell? ⟨lw, 1, none⟩ = some (.int .i64 l.length) := by rw [Lib.cell_of_heap h.1]; rfl
  obtain ⟨L, hL⟩ : ∃ L, l.length = L := ⟨_, rfl⟩
  rw [hL] at c1 hl ⊢
  have hsl : ∀ w, (Instr.slice 25 (.slice (some ⟨bb, 0, none⟩) 32 32) none (some (.int .i64 (L : Int))) none).run Tryz.prog w = .ok (.slice (some ⟨bb, 0, none⟩) L 32) w := fun w => by
    rw [run_slice_h w 25 (some ⟨bb, 0, none⟩) 32 32 (by kernel_rfl) .i64 (L : Int) (by omega) (by omega)]
    go_simp
  clear h hL
  go_enter Tryz.func71, Tryz.ntmps71
  go_wp2_with fail
  go_region
  go_wp2_with fail
  go_returns
  exact ⟨rfl, 1, rfl⟩
end Go.Proofs.YtgaeeklmifjigaaGreatFmt
