/- Walks: the messages of expectedStartEndError and stringIndexNotNumberError at null, a bool and an int, and the two laws on them. -/
import Derived.Test.YtgaeeklmifjigaaGreatFmtPrevA
import Derived.Test.YtgaeeklmifjigaaGreatFmtIntK
namespace Go.Proofs.YtgaeeklmifjigaaGreatFmt
open Go.RowKit Go.Deep Go.Lib Go.Sort

def boolT (b : Bool) : ByteArray := if b then ⟨#[98, 111, 111, 108, 101, 97, 110, 32, 40, 116, 114, 117, 101, 41]⟩ else ⟨#[98, 111, 111, 108, 101, 97, 110, 32, 40, 102, 97, 108, 115, 101, 41]⟩
def intT (n : Int) : ByteArray := ⟨#[110, 117, 109, 98, 101, 114, 32, 40]⟩ ++ ⟨(itoa n).toArray⟩ ++ ⟨#[41]⟩
theorem itoa_short (n : Int) (h0 : -9223372036854775808 ≤ n) (h1 : n ≤ 9223372036854775807) : (itoa n).length ≤ 21 := by
  unfold itoa
  split
  · have := dec_len n.natAbs (by omega); simp; omega
  · have := dec_len n.toNat (by omega); omega
theorem intT_size (n : Int) (h0 : -9223372036854775808 ≤ n) (h1 : n ≤ 9223372036854775807) : (intT n).size ≤ 1048576 := by
  have := itoa_short n h0 h1
  unfold intT
  rw [ByteArray.size_append, ByteArray.size_append, show (⟨(itoa n).toArray⟩ : ByteArray).size = (itoa n).length from rfl]
  simp [ByteArray.size]
  omega
theorem boolT_size (b : Bool) : (boolT b).size ≤ 1048576 := by cases b <;> decide
theorem boolT_eq (b : Bool) : (⟨#[98, 111, 111, 108, 101, 97, 110, 32, 40]⟩ : ByteArray) ++ ⟨(boolL b).toArray⟩ ++ ⟨#[41]⟩ = boolT b := by
  cases b <;> simp [boolL, boolT, ByteArray.mk_append_mk]
abbrev Tab (B : Nat) (W : World) : Prop := Lib.TabBelow Tryz.prog B W "internal/strconv.uint64pow10" .u64 Lib.pow10Tab
/-- typeErrorPreview at an int, at a bool. -/
theorem tepT_int (n : Int) (h0 : -9223372036854775808 ≤ n) (h1 : n ≤ 9223372036854775807) (W : World) (htab : Tab W.heap.size W) :
    Calls Tryz.prog 31 #[.iface 3 (.int .i64 n)] W fun e w' => e = .returned (.string (intT n)) ∧ Below W.heap.size W w' := by
  have hl := itoa_short n h0 h1
  exact tep_int _ _ (by show (itoa n).length ≤ 1048576; omega) W (Lib.hid (preview_short _ (itoa n) (by omega) W (Lib.hid (jlm_any _ (itoa n) (by omega) W
    (Lib.hid fun lw bb eb w hL hE hne k1 k2 k3 k4 k5 hb => encL_int W.heap.size lw bb eb n h0 h1 w hL hE hne k4.symm k5.symm k1 k3 (htab.on hb))))))
theorem tepT_bool (b : Bool) (W : World) :
    Calls Tryz.prog 31 #[.iface 4 (.bool b)] W fun e w' => e = .returned (.string (boolT b)) ∧ Below W.heap.size W w' := by
  have hl : (boolL b).length ≤ 5 := by cases b <;> decide
  rw [← boolT_eq b]
  exact tep_bool _ _ (by show (boolL b).length ≤ 1048576; omega) W (Lib.hid (preview_short _ (boolL b) (by omega) W (Lib.hid (jlm_any _ (boolL b) (by omega) W
    (Lib.hid fun lw bb eb w hL hE hne _ _ _ _ _ _ => encL_bool lw bb eb b w hL hE hne)))))


set_option maxHeartbeats 2000000 in
set_option maxRecDepth 100000 in
theorem err_E (v : Value) (s : ByteArray) (hs : s.size ≤ 1048576) (p : Nat) (W : World) (hc : W.cell? ⟨p, 0, none⟩ = some v)
    (HT : Hid (Calls Tryz.prog 31 #[v] W fun e w' => e = .returned (.string s) ∧ Below W.heap.size W w')) :
    Calls Tryz.prog 27 #[.pointer (some ⟨p, 0, none⟩)] W fun e w' => e = .returned (.string (⟨#[101, 120, 112, 101, 99, 116, 101, 100, 32, 34, 115, 116, 97, 114, 116, 34, 32, 97, 110, 100, 32, 34, 101, 110, 100, 34, 32, 102, 111, 114, 32, 115, 108, 105, 99, 105, 110, 103, 32, 98, 117, 116, 32, 103, 111, 116, 58, 32]⟩ ++ s)) ∧ Below W.heap.size W w' := by
  obtain ⟨m, hm⟩ : ∃ m, s.size = m := ⟨_, rfl⟩
  rw [hm] at hs
  go_enter Tryz.func27, Tryz.ntmps27
  go_wp2_with (go_at_call 31; refine HT.out.mono ?_; rintro e w2 ⟨rfl, hb⟩)
  go_ret
  exact ⟨rfl, hb⟩

set_option maxHeartbeats 2000000 in
set_option maxRecDepth 100000 in
theorem zzE_Nil  (W : World) :
    Calls Tryz.prog 18 #[] W fun e w' => e = .returned (.string (⟨#[101, 120, 112, 101, 99, 116, 101, 100, 32, 34, 115, 116, 97, 114, 116, 34, 32, 97, 110, 100, 32, 34, 101, 110, 100, 34, 32, 102, 111, 114, 32, 115, 108, 105, 99, 105, 110, 103, 32, 98, 117, 116, 32, 103, 111, 116, 58, 32]⟩ ++ (⟨#[110, 117, 108, 108]⟩ : ByteArray))) ∧ Below W.heap.size W w' := by
  have HE : Hid (∀ w, Below W.heap.size W w → w.cell? ⟨W.heap.size, 0, none⟩ = some (.nilIface) → Calls Tryz.prog 27 #[.pointer (some ⟨W.heap.size, 0, none⟩)] w fun e w' => e = .returned (.string (⟨#[101, 120, 112, 101, 99, 116, 101, 100, 32, 34, 115, 116, 97, 114, 116, 34, 32, 97, 110, 100, 32, 34, 101, 110, 100, 34, 32, 102, 111, 114, 32, 115, 108, 105, 99, 105, 110, 103, 32, 98, 117, 116, 32, 103, 111, 116, 58, 32]⟩ ++ (⟨#[110, 117, 108, 108]⟩ : ByteArray))) ∧ Below W.heap.size W w') :=
    Lib.hid fun w hb hc => (err_E _ _ (by decide) _ w hc (Lib.hid ((tep_nil _).mono fun e w2 h => ⟨h.1, h.2 ▸ Below.refl _ _⟩))).mono fun e w' h => ⟨h.1, hb.trans (h.2.mono hb.size)⟩
  go_enter Tryz.func18, Tryz.ntmps18
  go_wp2_with (go_at_call 27; refine (HE.out _ ?_ ?_).mono ?_; exact (Below.refl _ _).alloc (Nat.le_refl _) _; (rw [Lib.cell_of_heap (heap_alloc_new _ _)]; rfl); rintro e w2 ⟨rfl, hb⟩)
  go_ret
  exact ⟨rfl, hb⟩

set_option maxHeartbeats 2000000 in
set_option maxRecDepth 100000 in
theorem zzE_Bool (b : Bool) (W : World) :
    Calls Tryz.prog 19 #[.bool b] W fun e w' => e = .returned (.string (⟨#[101, 120, 112, 101, 99, 116, 101, 100, 32, 34, 115, 116, 97, 114, 116, 34, 32, 97, 110, 100, 32, 34, 101, 110, 100, 34, 32, 102, 111, 114, 32, 115, 108, 105, 99, 105, 110, 103, 32, 98, 117, 116, 32, 103, 111, 116, 58, 32]⟩ ++ boolT b)) ∧ Below W.heap.size W w' := by
  have HE : Hid (∀ w, Below W.heap.size W w → w.cell? ⟨W.heap.size, 0, none⟩ = some (.iface 4 (.bool b)) → Calls Tryz.prog 27 #[.pointer (some ⟨W.heap.size, 0, none⟩)] w fun e w' => e = .returned (.string (⟨#[101, 120, 112, 101, 99, 116, 101, 100, 32, 34, 115, 116, 97, 114, 116, 34, 32, 97, 110, 100, 32, 34, 101, 110, 100, 34, 32, 102, 111, 114, 32, 115, 108, 105, 99, 105, 110, 103, 32, 98, 117, 116, 32, 103, 111, 116, 58, 32]⟩ ++ boolT b)) ∧ Below W.heap.size W w') :=
    Lib.hid fun w hb hc => (err_E _ _ (boolT_size b) _ w hc (Lib.hid (tepT_bool b _))).mono fun e w' h => ⟨h.1, hb.trans (h.2.mono hb.size)⟩
  go_enter Tryz.func19, Tryz.ntmps19
  go_wp2_with (go_at_call 27; refine (HE.out _ ?_ ?_).mono ?_; exact (Below.refl _ _).alloc (Nat.le_refl _) _; (rw [Lib.cell_of_heap (heap_alloc_new _ _)]; rfl); rintro e w2 ⟨rfl, hb⟩)
  go_ret
  exact ⟨rfl, hb⟩

set_option maxHeartbeats 2000000 in
set_option maxRecDepth 100000 in
theorem zzE_Int (n : Int) (h0 : -9223372036854775808 ≤ n) (h1 : n ≤ 9223372036854775807) (W : World) (htab : Tab W.heap.size W) :
    Calls Tryz.prog 20 #[.int .i64 n] W fun e w' => e = .returned (.string (⟨#[101, 120, 112, 101, 99, 116, 101, 100, 32, 34, 115, 116, 97, 114, 116, 34, 32, 97, 110, 100, 32, 34, 101, 110, 100, 34, 32, 102, 111, 114, 32, 115, 108, 105, 99, 105, 110, 103, 32, 98, 117, 116, 32, 103, 111, 116, 58, 32]⟩ ++ intT n)) ∧ Below W.heap.size W w' := by
  have HE : Hid (∀ w, Below W.heap.size W w → w.cell? ⟨W.heap.size, 0, none⟩ = some (.iface 3 (.int .i64 n)) → Calls Tryz.prog 27 #[.pointer (some ⟨W.heap.size, 0, none⟩)] w fun e w' => e = .returned (.string (⟨#[101, 120, 112, 101, 99, 116, 101, 100, 32, 34, 115, 116, 97, 114, 116, 34, 32, 97, 110, 100, 32, 34, 101, 110, 100, 34, 32, 102, 111, 114, 32, 115, 108, 105, 99, 105, 110, 103, 32, 98, 117, 116, 32, 103, 111, 116, 58, 32]⟩ ++ intT n)) ∧ Below W.heap.size W w') :=
    Lib.hid fun w hb hc => (err_E _ _ (intT_size n h0 h1) _ w hc (Lib.hid (tepT_int n h0 h1 _ (Lib.tabBelow_of_tabIs (htab.on hb).here)))).mono fun e w' h => ⟨h.1, hb.trans (h.2.mono hb.size)⟩
  go_enter Tryz.func20, Tryz.ntmps20
  go_wp2_with (go_at_call 27; refine (HE.out _ ?_ ?_).mono ?_; exact (Below.refl _ _).alloc (Nat.le_refl _) _; (rw [Lib.cell_of_heap (heap_alloc_new _ _)]; rfl); rintro e w2 ⟨rfl, hb⟩)
  go_ret
  exact ⟨rfl, hb⟩

set_option maxHeartbeats 2000000 in
set_option maxRecDepth 100000 in
theorem err_S (v : Value) (s : ByteArray) (hs : s.size ≤ 1048576) (p : Nat) (W : World) (hc : W.cell? ⟨p, 0, none⟩ = some v)
    (HT : Hid (Calls Tryz.prog 31 #[v] W fun e w' => e = .returned (.string s) ∧ Below W.heap.size W w')) :
    Calls Tryz.prog 28 #[.pointer (some ⟨p, 0, none⟩)] W fun e w' => e = .returned (.string (⟨#[101, 120, 112, 101, 99, 116, 101, 100, 32, 97, 32, 110, 117, 109, 98, 101, 114, 32, 102, 111, 114, 32, 105, 110, 100, 101, 120, 105, 110, 103, 32, 97, 32, 115, 116, 114, 105, 110, 103, 32, 98, 117, 116, 32, 103, 111, 116, 58, 32]⟩ ++ s)) ∧ Below W.heap.size W w' := by
  obtain ⟨m, hm⟩ : ∃ m, s.size = m := ⟨_, rfl⟩
  rw [hm] at hs
  go_enter Tryz.func28, Tryz.ntmps28
  go_wp2_with (go_at_call 31; refine HT.out.mono ?_; rintro e w2 ⟨rfl, hb⟩)
  go_ret
  exact ⟨rfl, hb⟩

set_option maxHeartbeats 2000000 in
set_option maxRecDepth 100000 in
theorem zzS_Nil  (W : World) :
    Calls Tryz.prog 22 #[] W fun e w' => e = .returned (.string (⟨#[101, 120, 112, 101, 99, 116, 101, 100, 32, 97, 32, 110, 117, 109, 98, 101, 114, 32, 102, 111, 114, 32, 105, 110, 100, 101, 120, 105, 110, 103, 32, 97, 32, 115, 116, 114, 105, 110, 103, 32, 98, 117, 116, 32, 103, 111, 116, 58, 32]⟩ ++ (⟨#[110, 117, 108, 108]⟩ : ByteArray))) ∧ Below W.heap.size W w' := by
  have HE : Hid (∀ w, Below W.heap.size W w → w.cell? ⟨W.heap.size, 0, none⟩ = some (.nilIface) → Calls Tryz.prog 28 #[.pointer (some ⟨W.heap.size, 0, none⟩)] w fun e w' => e = .returned (.string (⟨#[101, 120, 112, 101, 99, 116, 101, 100, 32, 97, 32, 110, 117, 109, 98, 101, 114, 32, 102, 111, 114, 32, 105, 110, 100, 101, 120, 105, 110, 103, 32, 97, 32, 115, 116, 114, 105, 110, 103, 32, 98, 117, 116, 32, 103, 111, 116, 58, 32]⟩ ++ (⟨#[110, 117, 108, 108]⟩ : ByteArray))) ∧ Below W.heap.size W w') :=
    Lib.hid fun w hb hc => (err_S _ _ (by decide) _ w hc (Lib.hid ((tep_nil _).mono fun e w2 h => ⟨h.1, h.2 ▸ Below.refl _ _⟩))).mono fun e w' h => ⟨h.1, hb.trans (h.2.mono hb.size)⟩
  go_enter Tryz.func22, Tryz.ntmps22
  go_wp2_with (go_at_call 28; refine (HE.out _ ?_ ?_).mono ?_; exact (Below.refl _ _).alloc (Nat.le_refl _) _; (rw [Lib.cell_of_heap (heap_alloc_new _ _)]; rfl); rintro e w2 ⟨rfl, hb⟩)
  go_ret
  exact ⟨rfl, hb⟩

set_option maxHeartbeats 2000000 in
set_option maxRecDepth 100000 in
theorem zzS_Bool (b : Bool) (W : World) :
    Calls Tryz.prog 23 #[.bool b] W fun e w' => e = .returned (.string (⟨#[101, 120, 112, 101, 99, 116, 101, 100, 32, 97, 32, 110, 117, 109, 98, 101, 114, 32, 102, 111, 114, 32, 105, 110, 100, 101, 120, 105, 110, 103, 32, 97, 32, 115, 116, 114, 105, 110, 103, 32, 98, 117, 116, 32, 103, 111, 116, 58, 32]⟩ ++ boolT b)) ∧ Below W.heap.size W w' := by
  have HE : Hid (∀ w, Below W.heap.size W w → w.cell? ⟨W.heap.size, 0, none⟩ = some (.iface 4 (.bool b)) → Calls Tryz.prog 28 #[.pointer (some ⟨W.heap.size, 0, none⟩)] w fun e w' => e = .returned (.string (⟨#[101, 120, 112, 101, 99, 116, 101, 100, 32, 97, 32, 110, 117, 109, 98, 101, 114, 32, 102, 111, 114, 32, 105, 110, 100, 101, 120, 105, 110, 103, 32, 97, 32, 115, 116, 114, 105, 110, 103, 32, 98, 117, 116, 32, 103, 111, 116, 58, 32]⟩ ++ boolT b)) ∧ Below W.heap.size W w') :=
    Lib.hid fun w hb hc => (err_S _ _ (boolT_size b) _ w hc (Lib.hid (tepT_bool b _))).mono fun e w' h => ⟨h.1, hb.trans (h.2.mono hb.size)⟩
  go_enter Tryz.func23, Tryz.ntmps23
  go_wp2_with (go_at_call 28; refine (HE.out _ ?_ ?_).mono ?_; exact (Below.refl _ _).alloc (Nat.le_refl _) _; (rw [Lib.cell_of_heap (heap_alloc_new _ _)]; rfl); rintro e w2 ⟨rfl, hb⟩)
  go_ret
  exact ⟨rfl, hb⟩

set_option maxHeartbeats 2000000 in
set_option maxRecDepth 100000 in
theorem zzS_Int (n : Int) (h0 : -9223372036854775808 ≤ n) (h1 : n ≤ 9223372036854775807) (W : World) (htab : Tab W.heap.size W) :
    Calls Tryz.prog 24 #[.int .i64 n] W fun e w' => e = .returned (.string (⟨#[101, 120, 112, 101, 99, 116, 101, 100, 32, 97, 32, 110, 117, 109, 98, 101, 114, 32, 102, 111, 114, 32, 105, 110, 100, 101, 120, 105, 110, 103, 32, 97, 32, 115, 116, 114, 105, 110, 103, 32, 98, 117, 116, 32, 103, 111, 116, 58, 32]⟩ ++ intT n)) ∧ Below W.heap.size W w' := by
  have HE : Hid (∀ w, Below W.heap.size W w → w.cell? ⟨W.heap.size, 0, none⟩ = some (.iface 3 (.int .i64 n)) → Calls Tryz.prog 28 #[.pointer (some ⟨W.heap.size, 0, none⟩)] w fun e w' => e = .returned (.string (⟨#[101, 120, 112, 101, 99, 116, 101, 100, 32, 97, 32, 110, 117, 109, 98, 101, 114, 32, 102, 111, 114, 32, 105, 110, 100, 101, 120, 105, 110, 103, 32, 97, 32, 115, 116, 114, 105, 110, 103, 32, 98, 117, 116, 32, 103, 111, 116, 58, 32]⟩ ++ intT n)) ∧ Below W.heap.size W w') :=
    Lib.hid fun w hb hc => (err_S _ _ (intT_size n h0 h1) _ w hc (Lib.hid (tepT_int n h0 h1 _ (Lib.tabBelow_of_tabIs (htab.on hb).here)))).mono fun e w' h => ⟨h.1, hb.trans (h.2.mono hb.size)⟩
  go_enter Tryz.func24, Tryz.ntmps24
  go_wp2_with (go_at_call 28; refine (HE.out _ ?_ ?_).mono ?_; exact (Below.refl _ _).alloc (Nat.le_refl _) _; (rw [Lib.cell_of_heap (heap_alloc_new _ _)]; rfl); rintro e w2 ⟨rfl, hb⟩)
  go_ret
  exact ⟨rfl, hb⟩

theorem u8_wf {n : Int} (h : (Lit.int .u8 n).wf = true) : 0 ≤ n ∧ n ≤ 255 := by
  have : IntKind.u8.min ≤ n ∧ n ≤ IntKind.u8.max := by simpa [Lit.wf] using h
  exact ⟨this.1, this.2⟩


set_option maxHeartbeats 2000000 in
set_option maxRecDepth 100000 in
theorem zzSP_0 (k n : Int) (b : Bool) (hk : k.tmod 3 = 0)  (W : World) :
    Calls Tryz.prog 21 #[.int .u8 k, .int .i64 n, .bool b] W fun e w' => e = .returned (.string ((⟨#[110, 117, 108, 108]⟩ : ByteArray))) ∧ Below W.heap.size W w' := by
  go_enter Tryz.func21, Tryz.ntmps21
  go_wp2
  go_ret
  exact ⟨rfl, Below.refl _ _⟩

set_option maxHeartbeats 2000000 in
set_option maxRecDepth 100000 in
theorem zzSP_1 (k n : Int) (b : Bool) (hk : k.tmod 3 = 1)  (W : World) :
    Calls Tryz.prog 21 #[.int .u8 k, .int .i64 n, .bool b] W fun e w' => e = .returned (.string (boolT b)) ∧ Below W.heap.size W w' := by
  cases b
  all_goals go_enter Tryz.func21, Tryz.ntmps21
  all_goals go_wp2
  all_goals go_ret
  all_goals exact ⟨rfl, Below.refl _ _⟩

set_option maxHeartbeats 2000000 in
set_option maxRecDepth 100000 in
theorem zzSP_2 (k n : Int) (b : Bool) (hk : k.tmod 3 = 2) (h0 : -9223372036854775808 ≤ n) (h1 : n ≤ 9223372036854775807) (W : World) :
    Calls Tryz.prog 21 #[.int .u8 k, .int .i64 n, .bool b] W fun e w' => e = .returned (.string (intT n)) ∧ Below W.heap.size W w' := by
  have HI := Lib.hid (zzItoa_any n h0 h1 W)
  have hl := itoa_short n h0 h1
  unfold intT
  obtain ⟨s, hs⟩ : ∃ s : ByteArray, ⟨(itoa n).toArray⟩ = s := ⟨_, rfl⟩
  obtain ⟨m, hm⟩ : ∃ m, s.size = m := ⟨_, rfl⟩
  have hm1 : m ≤ 21 := by rw [← hm, ← hs]; exact hl
  rw [hs] at HI ⊢
  clear hs hl
  go_enter Tryz.func21, Tryz.ntmps21
  go_wp2_with (go_at_call 29; refine HI.out.mono ?_; rintro e w2 ⟨rfl, hb⟩)
  go_ret
  exact ⟨rfl, hb⟩

set_option maxHeartbeats 2000000 in
set_option maxRecDepth 100000 in
theorem lawE_0 (k n : Int) (b : Bool) (hk : k.tmod 3 = 0)  (W : World)  :
    Calls Tryz.prog 6 #[.int .u8 k, .int .i64 n, .bool b] W fun e w' => e = .returned (.bool true) ∧ Below W.heap.size W w' := by

  have HE : Hid (∀ w, Below W.heap.size W w → Calls Tryz.prog 18 #[] w fun e w' => e = .returned (.string (⟨#[101, 120, 112, 101, 99, 116, 101, 100, 32, 34, 115, 116, 97, 114, 116, 34, 32, 97, 110, 100, 32, 34, 101, 110, 100, 34, 32, 102, 111, 114, 32, 115, 108, 105, 99, 105, 110, 103, 32, 98, 117, 116, 32, 103, 111, 116, 58, 32]⟩ ++ (⟨#[110, 117, 108, 108]⟩ : ByteArray))) ∧ Below W.heap.size W w') :=
    Lib.hid fun w hb => (zzE_Nil w).mono fun e w' h => ⟨h.1, hb.trans (h.2.mono hb.size)⟩
  have HS : Hid (∀ w, Below W.heap.size W w → Calls Tryz.prog 21 #[.int .u8 k, .int .i64 n, .bool b] w fun e w' => e = .returned (.string ((⟨#[110, 117, 108, 108]⟩ : ByteArray))) ∧ Below W.heap.size W w') :=
    Lib.hid fun w hb => (zzSP_0 k n b hk w).mono fun e w' h => ⟨h.1, hb.trans (h.2.mono hb.size)⟩
  have hsz : ((⟨#[110, 117, 108, 108]⟩ : ByteArray)).size ≤ 1048576 := by decide
  obtain ⟨s, hs⟩ : ∃ s, (⟨#[110, 117, 108, 108]⟩ : ByteArray) = s := ⟨_, rfl⟩
  obtain ⟨m, hm⟩ : ∃ m, s.size = m := ⟨_, rfl⟩
  rw [hs] at HE HS hsz
  rw [hm] at hsz
  clear hs
  go_enter Tryz.func6, Tryz.ntmps6
  go_wp2_with (first
    | (go_at_call 18; refine (HE.out _ ?_).mono ?_; exact Below.refl _ _; rintro e w2 ⟨rfl, hb⟩)
    | (go_at_call 21; refine (HS.out _ ?_).mono ?_; exact hb; rintro e w3 ⟨rfl, hb3⟩))
  go_ret
  exact ⟨rfl, hb3⟩

set_option maxHeartbeats 2000000 in
set_option maxRecDepth 100000 in
theorem lawE_1 (k n : Int) (b : Bool) (hk : k.tmod 3 = 1)  (W : World)  :
    Calls Tryz.prog 6 #[.int .u8 k, .int .i64 n, .bool b] W fun e w' => e = .returned (.bool true) ∧ Below W.heap.size W w' := by

  have HE : Hid (∀ w, Below W.heap.size W w → Calls Tryz.prog 19 #[.bool b] w fun e w' => e = .returned (.string (⟨#[101, 120, 112, 101, 99, 116, 101, 100, 32, 34, 115, 116, 97, 114, 116, 34, 32, 97, 110, 100, 32, 34, 101, 110, 100, 34, 32, 102, 111, 114, 32, 115, 108, 105, 99, 105, 110, 103, 32, 98, 117, 116, 32, 103, 111, 116, 58, 32]⟩ ++ boolT b)) ∧ Below W.heap.size W w') :=
    Lib.hid fun w hb => (zzE_Bool b w).mono fun e w' h => ⟨h.1, hb.trans (h.2.mono hb.size)⟩
  have HS : Hid (∀ w, Below W.heap.size W w → Calls Tryz.prog 21 #[.int .u8 k, .int .i64 n, .bool b] w fun e w' => e = .returned (.string (boolT b)) ∧ Below W.heap.size W w') :=
    Lib.hid fun w hb => (zzSP_1 k n b hk w).mono fun e w' h => ⟨h.1, hb.trans (h.2.mono hb.size)⟩
  have hsz : (boolT b).size ≤ 1048576 := boolT_size b
  obtain ⟨s, hs⟩ : ∃ s, boolT b = s := ⟨_, rfl⟩
  obtain ⟨m, hm⟩ : ∃ m, s.size = m := ⟨_, rfl⟩
  rw [hs] at HE HS hsz
  rw [hm] at hsz
  clear hs
  go_enter Tryz.func6, Tryz.ntmps6
  go_wp2_with (first
    | (go_at_call 19; refine (HE.out _ ?_).mono ?_; exact Below.refl _ _; rintro e w2 ⟨rfl, hb⟩)
    | (go_at_call 21; refine (HS.out _ ?_).mono ?_; exact hb; rintro e w3 ⟨rfl, hb3⟩))
  go_ret
  exact ⟨rfl, hb3⟩

set_option maxHeartbeats 2000000 in
set_option maxRecDepth 100000 in
theorem lawE_2 (k n : Int) (b : Bool) (hk : k.tmod 3 = 2) (h0 : -9223372036854775808 ≤ n) (h1 : n ≤ 9223372036854775807) (W : World) (htab : Tab W.heap.size W) :
    Calls Tryz.prog 6 #[.int .u8 k, .int .i64 n, .bool b] W fun e w' => e = .returned (.bool true) ∧ Below W.heap.size W w' := by
  have HTAB := Lib.hid htab
  have HE : Hid (∀ w, Below W.heap.size W w → Calls Tryz.prog 20 #[.int .i64 n] w fun e w' => e = .returned (.string (⟨#[101, 120, 112, 101, 99, 116, 101, 100, 32, 34, 115, 116, 97, 114, 116, 34, 32, 97, 110, 100, 32, 34, 101, 110, 100, 34, 32, 102, 111, 114, 32, 115, 108, 105, 99, 105, 110, 103, 32, 98, 117, 116, 32, 103, 111, 116, 58, 32]⟩ ++ intT n)) ∧ Below W.heap.size W w') :=
    Lib.hid fun w hb => (zzE_Int n h0 h1 w (Lib.tabBelow_of_tabIs (HTAB.out.on hb).here)).mono fun e w' h => ⟨h.1, hb.trans (h.2.mono hb.size)⟩
  have HS : Hid (∀ w, Below W.heap.size W w → Calls Tryz.prog 21 #[.int .u8 k, .int .i64 n, .bool b] w fun e w' => e = .returned (.string (intT n)) ∧ Below W.heap.size W w') :=
    Lib.hid fun w hb => (zzSP_2 k n b hk h0 h1 w).mono fun e w' h => ⟨h.1, hb.trans (h.2.mono hb.size)⟩
  have hsz : (intT n).size ≤ 1048576 := intT_size n h0 h1
  obtain ⟨s, hs⟩ : ∃ s, intT n = s := ⟨_, rfl⟩
  obtain ⟨m, hm⟩ : ∃ m, s.size = m := ⟨_, rfl⟩
  rw [hs] at HE HS hsz
  rw [hm] at hsz
  clear hs htab HTAB
  go_enter Tryz.func6, Tryz.ntmps6
  go_wp2_with (first
    | (go_at_call 20; refine (HE.out _ ?_).mono ?_; exact Below.refl _ _; rintro e w2 ⟨rfl, hb⟩)
    | (go_at_call 21; refine (HS.out _ ?_).mono ?_; exact hb; rintro e w3 ⟨rfl, hb3⟩))
  go_ret
  exact ⟨rfl, hb3⟩

theorem walk_FnExpectedStartEndErrorScalar (k : Int) (hk : (Lit.int .u8 k).wf = true) (n : Int) (hn : (Lit.int .i64 n).wf = true) (b : Bool) (W : World) (htab : Lib.TabIs Tryz.prog W "internal/strconv.uint64pow10" .u64 Lib.pow10Tab) :
    Calls Tryz.prog 6 #[.int .u8 k, .int .i64 n, .bool b] W fun e w' => e = .returned (.bool true) ∧ Below W.heap.size W w' := by
  have hk' := u8_wf hk
  have hn' := in64_wf hn
  have hT := Lib.tabBelow_of_tabIs htab
  have h3 : k.tmod 3 = 0 ∨ k.tmod 3 = 1 ∨ k.tmod 3 = 2 := by rw [Int.tmod_eq_emod_of_nonneg hk'.1]; omega
  rcases h3 with h | h | h
  · exact lawE_0 k n b h W
  · exact lawE_1 k n b h W
  · exact lawE_2 k n b h hn'.1 hn'.2 W hT

set_option maxHeartbeats 2000000 in
set_option maxRecDepth 100000 in
theorem lawS_0 (k n : Int) (b : Bool) (hk : k.tmod 3 = 0)  (W : World)  :
    Calls Tryz.prog 7 #[.int .u8 k, .int .i64 n, .bool b] W fun e w' => e = .returned (.bool true) ∧ Below W.heap.size W w' := by

  have HE : Hid (∀ w, Below W.heap.size W w → Calls Tryz.prog 22 #[] w fun e w' => e = .returned (.string (⟨#[101, 120, 112, 101, 99, 116, 101, 100, 32, 97, 32, 110, 117, 109, 98, 101, 114, 32, 102, 111, 114, 32, 105, 110, 100, 101, 120, 105, 110, 103, 32, 97, 32, 115, 116, 114, 105, 110, 103, 32, 98, 117, 116, 32, 103, 111, 116, 58, 32]⟩ ++ (⟨#[110, 117, 108, 108]⟩ : ByteArray))) ∧ Below W.heap.size W w') :=
    Lib.hid fun w hb => (zzS_Nil w).mono fun e w' h => ⟨h.1, hb.trans (h.2.mono hb.size)⟩
  have HS : Hid (∀ w, Below W.heap.size W w → Calls Tryz.prog 21 #[.int .u8 k, .int .i64 n, .bool b] w fun e w' => e = .returned (.string ((⟨#[110, 117, 108, 108]⟩ : ByteArray))) ∧ Below W.heap.size W w') :=
    Lib.hid fun w hb => (zzSP_0 k n b hk w).mono fun e w' h => ⟨h.1, hb.trans (h.2.mono hb.size)⟩
  have hsz : ((⟨#[110, 117, 108, 108]⟩ : ByteArray)).size ≤ 1048576 := by decide
  obtain ⟨s, hs⟩ : ∃ s, (⟨#[110, 117, 108, 108]⟩ : ByteArray) = s := ⟨_, rfl⟩
  obtain ⟨m, hm⟩ : ∃ m, s.size = m := ⟨_, rfl⟩
  rw [hs] at HE HS hsz
  rw [hm] at hsz
  clear hs
  go_enter Tryz.func7, Tryz.ntmps7
  go_wp2_with (first
    | (go_at_call 22; refine (HE.out _ ?_).mono ?_; exact Below.refl _ _; rintro e w2 ⟨rfl, hb⟩)
    | (go_at_call 21; refine (HS.out _ ?_).mono ?_; exact hb; rintro e w3 ⟨rfl, hb3⟩))
  go_ret
  exact ⟨rfl, hb3⟩

set_option maxHeartbeats 2000000 in
set_option maxRecDepth 100000 in
theorem lawS_1 (k n : Int) (b : Bool) (hk : k.tmod 3 = 1)  (W : World)  :
    Calls Tryz.prog 7 #[.int .u8 k, .int .i64 n, .bool b] W fun e w' => e = .returned (.bool true) ∧ Below W.heap.size W w' := by

  have HE : Hid (∀ w, Below W.heap.size W w → Calls Tryz.prog 23 #[.bool b] w fun e w' => e = .returned (.string (⟨#[101, 120, 112, 101, 99, 116, 101, 100, 32, 97, 32, 110, 117, 109, 98, 101, 114, 32, 102, 111, 114, 32, 105, 110, 100, 101, 120, 105, 110, 103, 32, 97, 32, 115, 116, 114, 105, 110, 103, 32, 98, 117, 116, 32, 103, 111, 116, 58, 32]⟩ ++ boolT b)) ∧ Below W.heap.size W w') :=
    Lib.hid fun w hb => (zzS_Bool b w).mono fun e w' h => ⟨h.1, hb.trans (h.2.mono hb.size)⟩
  have HS : Hid (∀ w, Below W.heap.size W w → Calls Tryz.prog 21 #[.int .u8 k, .int .i64 n, .bool b] w fun e w' => e = .returned (.string (boolT b)) ∧ Below W.heap.size W w') :=
    Lib.hid fun w hb => (zzSP_1 k n b hk w).mono fun e w' h => ⟨h.1, hb.trans (h.2.mono hb.size)⟩
  have hsz : (boolT b).size ≤ 1048576 := boolT_size b
  obtain ⟨s, hs⟩ : ∃ s, boolT b = s := ⟨_, rfl⟩
  obtain ⟨m, hm⟩ : ∃ m, s.size = m := ⟨_, rfl⟩
  rw [hs] at HE HS hsz
  rw [hm] at hsz
  clear hs
  go_enter Tryz.func7, Tryz.ntmps7
  go_wp2_with (first
    | (go_at_call 23; refine (HE.out _ ?_).mono ?_; exact Below.refl _ _; rintro e w2 ⟨rfl, hb⟩)
    | (go_at_call 21; refine (HS.out _ ?_).mono ?_; exact hb; rintro e w3 ⟨rfl, hb3⟩))
  go_ret
  exact ⟨rfl, hb3⟩

set_option maxHeartbeats 2000000 in
set_option maxRecDepth 100000 in
theorem lawS_2 (k n : Int) (b : Bool) (hk : k.tmod 3 = 2) (h0 : -9223372036854775808 ≤ n) (h1 : n ≤ 9223372036854775807) (W : World) (htab : Tab W.heap.size W) :
    Calls Tryz.prog 7 #[.int .u8 k, .int .i64 n, .bool b] W fun e w' => e = .returned (.bool true) ∧ Below W.heap.size W w' := by
  have HTAB := Lib.hid htab
  have HE : Hid (∀ w, Below W.heap.size W w → Calls Tryz.prog 24 #[.int .i64 n] w fun e w' => e = .returned (.string (⟨#[101, 120, 112, 101, 99, 116, 101, 100, 32, 97, 32, 110, 117, 109, 98, 101, 114, 32, 102, 111, 114, 32, 105, 110, 100, 101, 120, 105, 110, 103, 32, 97, 32, 115, 116, 114, 105, 110, 103, 32, 98, 117, 116, 32, 103, 111, 116, 58, 32]⟩ ++ intT n)) ∧ Below W.heap.size W w') :=
    Lib.hid fun w hb => (zzS_Int n h0 h1 w (Lib.tabBelow_of_tabIs (HTAB.out.on hb).here)).mono fun e w' h => ⟨h.1, hb.trans (h.2.mono hb.size)⟩
  have HS : Hid (∀ w, Below W.heap.size W w → Calls Tryz.prog 21 #[.int .u8 k, .int .i64 n, .bool b] w fun e w' => e = .returned (.string (intT n)) ∧ Below W.heap.size W w') :=
    Lib.hid fun w hb => (zzSP_2 k n b hk h0 h1 w).mono fun e w' h => ⟨h.1, hb.trans (h.2.mono hb.size)⟩
  have hsz : (intT n).size ≤ 1048576 := intT_size n h0 h1
  obtain ⟨s, hs⟩ : ∃ s, intT n = s := ⟨_, rfl⟩
  obtain ⟨m, hm⟩ : ∃ m, s.size = m := ⟨_, rfl⟩
  rw [hs] at HE HS hsz
  rw [hm] at hsz
  clear hs htab HTAB
  go_enter Tryz.func7, Tryz.ntmps7
  go_wp2_with (first
    | (go_at_call 24; refine (HE.out _ ?_).mono ?_; exact Below.refl _ _; rintro e w2 ⟨rfl, hb⟩)
    | (go_at_call 21; refine (HS.out _ ?_).mono ?_; exact hb; rintro e w3 ⟨rfl, hb3⟩))
  go_ret
  exact ⟨rfl, hb3⟩

theorem walk_FnStringIndexNotNumberErrorScalar (k : Int) (hk : (Lit.int .u8 k).wf = true) (n : Int) (hn : (Lit.int .i64 n).wf = true) (b : Bool) (W : World) (htab : Lib.TabIs Tryz.prog W "internal/strconv.uint64pow10" .u64 Lib.pow10Tab) :
    Calls Tryz.prog 7 #[.int .u8 k, .int .i64 n, .bool b] W fun e w' => e = .returned (.bool true) ∧ Below W.heap.size W w' := by
  have hk' := u8_wf hk
  have hn' := in64_wf hn
  have hT := Lib.tabBelow_of_tabIs htab
  have h3 : k.tmod 3 = 0 ∨ k.tmod 3 = 1 ∨ k.tmod 3 = 2 := by rw [Int.tmod_eq_emod_of_nonneg hk'.1]; omega
  rcases h3 with h | h | h
  · exact lawS_0 k n b h W
  · exact lawS_1 k n b h W
  · exact lawS_2 k n b h hn'.1 hn'.2 W hT
end Go.Proofs.YtgaeeklmifjigaaGreatFmt
