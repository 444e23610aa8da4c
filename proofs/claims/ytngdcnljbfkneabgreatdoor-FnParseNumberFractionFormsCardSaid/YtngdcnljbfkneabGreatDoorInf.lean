/- bigall's SetString refuses a number with an exponent; parseNumber answers an infinity there. -/
import Derived.Test.YtngdcnljbfkneabGreatDoorScan
import Derived.Test.YtngdcnljbfkneabGreatDoorPfG
import Derived.Test.YtngdcnljbfkneabGreatDoorShelfH
namespace Go.Proofs.YtngdcnljbfkneabGreatDoor
open Go.RowKit Go.Dec Go.Lib Go.Deep

@[go_sem] theorem mf64from (n : Int) (w : World) : (callFunc 29 #[.int .u64 n]).run Tryz.prog w = .ok (.value (.float .f64 n.toNat)) w := by kernel_rfl
def IntAt (w : World) (z : Nat) (ng : Bool) (v : Value) : Prop := w.heap[z]? = some (.cells #[.bool ng, v] 54 (0, 0))
theorem IntAt.lt {w : World} {z : Nat} {ng : Bool} {v : Value} (h : IntAt w z ng v) : z < w.heap.size := (Array.getElem?_eq_some_iff.1 h).1
theorem IntAt.set1 {w : World} {z : Nat} {ng : Bool} {v : Value} (h : IntAt w z ng v) (x : Value) : IntAt (w.setCell ⟨z, 1, none⟩ x) z ng x := by
  unfold IntAt at h ⊢
  unfold World.setCell
  simp only []
  rw [Array.getElem?_modify, if_pos rfl, h]
  rfl
structure IntFacts (w : World) (z : Nat) (ng : Bool) (v : Value) : Prop where
  c0 : w.cell? ⟨z, 0, none⟩ = some (.bool ng)
  c1 : w.cell? ⟨z, 1, none⟩ = some v
  fz : ∀ o, w.frozen? ⟨z, o, none⟩ = false
theorem IntAt.facts {w : World} {z : Nat} {ng : Bool} {v : Value} (h : IntAt w z ng v) : IntFacts w z ng v :=
  ⟨cell_of_row _ _ 0 _ _ (0, 0) h, cell_of_row _ _ 1 _ _ (0, 0) h, fun o => by simp [World.frozen?, show w.heap[z]? = _ from h]⟩
theorem RdAt.other {w : World} {b : Nat} {s : ByteArray} {i p : Int} (h : RdAt w b s i p) (a : Addr) (v : Value) (hne : b ≠ a.block) : RdAt (w.setCell a v) b s i p := (Below.heap_setCell w a v b hne).trans h
/-- A text that spells a number, at most sixteen digits long, with an 'e' behind it. -/
structure ExpT (s : ByteArray) (u L : Nat) (neg : Bool) : Prop where
  hu : 0 < u
  hL : nDigits u = L
  hL16 : L ≤ 16
  hs : s.size ≤ 1000
  st : Stands s (if neg then 1 else 0) (bodyOf u)
  lt : (if neg then 1 else 0) + L < s.size
  e : (s.data.toList.getD ((if neg then 1 else 0) + L) 0).toNat = 101
  c0 : ((((s.data.toList.getD 0 0).toNat : Int)) == 45) = neg
  c1 : ((((s.data.toList.getD 0 0).toNat : Int)) == 43) = false
set_option maxRecDepth 100000 in
set_option maxHeartbeats 4000000 in
theorem int_scan (s : ByteArray) (u L : Nat) (neg : Bool) (T : ExpT s u L neg) (z b : Nat) (hzb : z < b) (W : World) (h : RdAt W b s 0 (-1)) (hz : IntAt W z false (.slice none 0 0))
    (tp : TypeId) (pe : Value) (hg : 1 < z) (heof : W.cell? ⟨1, 0, none⟩ = some (.iface tp pe)) :
    Calls Tryz.prog 34 #[.pointer (some ⟨z, 0, none⟩), .iface 63 (.pointer (some ⟨b, 0, none⟩)), .int .i64 10] W fun e w' =>
      e = .returned (.tuple #[.pointer (some ⟨z, 0, none⟩), .int .i64 10, .nilIface]) ∧ RdAt w' b s (((if neg then 1 else 0) + L : Nat) : Int) (-1) ∧ Below z W w' := by
  have hi : (if neg then (1 : Int) else 0) = (((if neg then 1 else 0 : Nat)) : Int) := by cases neg <;> rfl
  have HG := Lib.hid (sign_at s T.hs (by have := T.lt; omega) _ rfl neg T.c0 T.c1 b W h)
  have HS := Lib.hid (fun (w : World) (h2 : RdAt w b s (if neg then 1 else 0) (-1)) (hb : Below b W w) => nat_scan s u L (if neg then 1 else 0) T.hu T.hL T.hL16 T.hs T.st T.lt T.e b w (by rw [← hi]; exact h2) tp pe (by omega) ((hb.cell (p := ⟨1, 0, none⟩) (show 1 < b from by omega)).trans heof))
  have HZ := Lib.hid (fun (w : World) (hb : Below b W w) => show IntAt w z false (.slice none 0 0) from (hb.block z hzb).trans hz)
  obtain ⟨P, hP⟩ : ∃ P : Nat, (if neg then 1 else 0) + L = P := ⟨_, rfl⟩
  rw [hP] at HS ⊢
  have hne : b ≠ z := by omega
  clear T h hz heof hP hi
  go_enter Tryz.func34, Tryz.ntmps34
  go_wp2_with (first
    | (go_at_call 50; refine HG.out.mono ?_; rintro e w1 ⟨rfl, hr1, hb1, hs1⟩; obtain ⟨z0, z1, zf⟩ := (HZ.out w1 hb1).facts; have HR1 := Lib.hid hr1; have HB1 := Lib.hid hb1; clear hr1 hb1 hs1)
    | (go_at_call 51; refine (HS.out _ HR1.out HB1.out).mono ?_; rintro e w2 ⟨⟨g, c, rfl⟩, hr2, hb2, hs2⟩; clear z0 z1 zf; have hz2 := HZ.out w2 (HB1.out.trans hb2); obtain ⟨y0, y1, yf⟩ := hz2.facts; obtain ⟨w3, hw3⟩ : ∃ w3, w2.setCell ⟨z, 1, none⟩ (.slice (some ⟨g, 0, none⟩) 1 1) = w3 := ⟨_, rfl⟩; have hz3 : IntAt w3 z false (.slice (some ⟨g, 0, none⟩) 1 1) := by rw [← hw3]; exact hz2.set1 _
       obtain ⟨x0, x1, xf⟩ := hz3.facts; have HR3 := Lib.hid (show RdAt w3 b s (P : Int) (-1) by rw [← hw3]; exact hr2.other _ _ hne); have HB3 := Lib.hid (show Below z W w3 by rw [← hw3]; exact ((HB1.out.trans hb2).mono (Nat.le_of_lt hzb)).setCell (Nat.le_refl _) _); clear hr2 hb2 hs2 hz2 hz3))
  go_returns
  exact ⟨rfl, HR3.out.other _ _ hne, HB3.out.setCell (Nat.le_refl _) _⟩
set_option maxRecDepth 100000 in
set_option maxHeartbeats 4000000 in
theorem set_from (s : ByteArray) (u L : Nat) (neg : Bool) (T : ExpT s u L neg) (z b : Nat) (hzb : z < b) (W : World) (h : RdAt W b s 0 (-1)) (hz : IntAt W z false (.slice none 0 0))
    (tp : TypeId) (pe : Value) (hg : 1 < z) (heof : W.cell? ⟨1, 0, none⟩ = some (.iface tp pe)) :
    Calls Tryz.prog 26 #[.pointer (some ⟨z, 0, none⟩), .iface 63 (.pointer (some ⟨b, 0, none⟩)), .int .i64 10] W fun e w' =>
      e = .returned (.tuple #[.pointer none, .bool false]) ∧ Below z W w' := by
  have HA := Lib.hid (int_scan s u L neg T z b hzb W h hz tp pe hg heof)
  have HR := Lib.hid (fun (w : World) (h : RdAt w b s (((if neg then 1 else 0) + L : Nat) : Int) (-1)) => read_in s ((if neg then 1 else 0) + L) T.lt T.hs 101 (by rw [T.e]; rfl) b (-1) w h)
  have HE := Lib.hid (fun (w : World) (hb : Below z W w) => (hb.cell (p := ⟨1, 0, none⟩) (show 1 < z from hg)).trans heof)
  obtain ⟨P, hP⟩ : ∃ P : Nat, (if neg then 1 else 0) + L = P := ⟨_, rfl⟩
  rw [hP] at HA HR
  clear T h hz heof hP
  go_enter Tryz.func26, Tryz.ntmps26
  go_wp2_with (first
    | (go_at_call 34; refine HA.out.mono ?_; rintro e w1 ⟨rfl, hr1, hb1⟩; have HR1 := Lib.hid hr1; have HB1 := Lib.hid hb1; clear hr1 hb1)
    | (go_at_call 239; refine (HR.out _ HR1.out).mono ?_; rintro e w2 ⟨rfl, _, hb2, _⟩; have heo := HE.out w2 (HB1.out.trans (hb2.mono (Nat.le_of_lt hzb))); have HB2 := Lib.hid (HB1.out.trans (hb2.mono (Nat.le_of_lt hzb))); clear hb2))
  go_returns
  exact ⟨rfl, HB2.out⟩
theorem new_reader (s : ByteArray) (w : World) : Calls Tryz.prog 27 #[.string s] w fun e w' => e = .returned (.pointer (some ⟨w.heap.size, 0, none⟩)) ∧ w' = w.alloc (.cells #[.string s, .int .i64 0, .int .i64 (-1)] 75) := by
  go_enter Tryz.func27, Tryz.ntmps27
  go_wp2
  go_returns
  exact ⟨rfl, rfl⟩
set_option maxRecDepth 100000 in
set_option maxHeartbeats 4000000 in
theorem set_string (s : ByteArray) (u L : Nat) (neg : Bool) (T : ExpT s u L neg) (z : Nat) (W : World) (hz : IntAt W z false (.slice none 0 0))
    (tp : TypeId) (pe : Value) (hg : 1 < z) (heof : W.cell? ⟨1, 0, none⟩ = some (.iface tp pe)) :
    Calls Tryz.prog 19 #[.pointer (some ⟨z, 0, none⟩), .string s, .int .i64 10] W fun e w' =>
      e = .returned (.tuple #[.pointer none, .bool false]) ∧ Below z W w' := by
  have hzl := hz.lt
  have ha : Below W.heap.size W (W.alloc (.cells #[.string s, .int .i64 0, .int .i64 (-1)] 75)) := (Below.refl W.heap.size W).alloc (Nat.le_refl _) (.cells #[.string s, .int .i64 0, .int .i64 (-1)] 75)
  have HA := Lib.hid (set_from s u L neg T z W.heap.size hzl (W.alloc (.cells #[.string s, .int .i64 0, .int .i64 (-1)] 75)) (heap_alloc_new _ _) ((ha.block z hzl).trans hz) tp pe hg ((ha.cell (p := ⟨1, 0, none⟩) (show 1 < W.heap.size from by omega)).trans heof))
  have HB := Lib.hid (ha.mono (Nat.le_of_lt hzl))
  clear T heof hz ha
  go_enter Tryz.func19, Tryz.ntmps19
  go_wp2_with (first
    | (go_at_call 27; refine (new_reader s _).mono ?_; rintro e w1 ⟨rfl, rfl⟩)
    | (go_at_call 26; refine HA.out.mono ?_; rintro e w2 ⟨rfl, hb2⟩; have HB2 := Lib.hid (HB.out.trans hb2); clear hb2))
  go_returns
  exact ⟨rfl, HB2.out⟩
set_option maxRecDepth 100000 in
set_option maxHeartbeats 4000000 in
theorem inf_pos (w : World) : Calls Tryz.prog 21 #[.int .i64 1] w fun e w' => e = .returned (.float .f64 9218868437227405312) ∧ w = w' := by
  go_enter Tryz.func21, Tryz.ntmps21
  go_wp2
  go_returns
  exact ⟨rfl, rfl⟩
set_option maxRecDepth 100000 in
set_option maxHeartbeats 4000000 in
theorem inf_neg (w : World) : Calls Tryz.prog 21 #[.int .i64 (-1)] w fun e w' => e = .returned (.float .f64 18442240474082181120) ∧ w = w' := by
  go_enter Tryz.func21, Tryz.ntmps21
  go_wp2
  go_returns
  exact ⟨rfl, rfl⟩
/-! ### parseNumber -/
theorem prefix_at (s : ByteArray) (neg : Bool) (h0 : 0 < s.size) (hc : ((((s.data.toList.getD 0 0).toNat : Int)) == 45) = neg) (w : World) : Calls Tryz.prog 20 #[.string s, .string ⟨#[45]⟩] w fun e w' => e = .returned (.bool neg) ∧ w = w' := by
  refine Calls.mono (Any.strings_HasPrefix Tryz.hp99 s ⟨#[45]⟩ w) ?_
  rintro e w' ⟨rfl, rfl⟩
  refine ⟨?_, rfl⟩
  obtain ⟨l, hl⟩ : ∃ l, s.data.toList = l := ⟨_, rfl⟩
  have hlen : 0 < l.length := by rw [← hl]; exact h0
  rw [hl] at hc ⊢
  cases l with
  | nil => simp at hlen
  | cons c r =>
    have e0 : ((45 : UInt8) == c) = (c == 45) := by
      by_cases h : c = 45
      · subst h; rfl
      · rw [beq_eq_false_iff_ne.2 h, beq_eq_false_iff_ne.2 (fun e => h e.symm)]
    have e1 : Lib.hasPrefix (c :: r) [45] = (c == 45) := by
      simp [Lib.hasPrefix, List.isPrefixOf, e0]
    show Ending.returned (.bool (Lib.hasPrefix (c :: r) [45])) = _
    rw [e1, ← hc]
    congr 2
    show (c == 45) = (((c.toNat : Nat) : Int) == 45)
    by_cases h : c = 45
    · subst h; rfl
    · have hn : ¬ ((c.toNat : Nat) : Int) = 45 := fun e => h (UInt8.toNat_inj.1 (by show c.toNat = 45; omega))
      rw [beq_eq_false_iff_ne.2 h, beq_eq_false_iff_ne.2 hn]
structure ErrCells (w : World) : Prop where
  rng : ∃ tp p, w.cell? ⟨4, 0, none⟩ = some (.iface tp p)
  eof : ∃ tp p, w.cell? ⟨1, 0, none⟩ = some (.iface tp p)
  sz : 4 < w.heap.size ∧ 1 < w.heap.size
theorem ErrCells.later {w w' : World} (h : ErrCells w) (hb : Below w.heap.size w w') : ErrCells w' := by
  obtain ⟨t1, p1, h1⟩ := h.rng
  obtain ⟨t2, p2, h2⟩ := h.eof
  exact ⟨⟨t1, p1, (hb.cell (p := ⟨4, 0, none⟩) h.sz.1).trans h1⟩, ⟨t2, p2, (hb.cell (p := ⟨1, 0, none⟩) h.sz.2).trans h2⟩, Nat.lt_of_lt_of_le h.sz.1 hb.size, Nat.lt_of_lt_of_le h.sz.2 hb.size⟩
def infW (neg : Bool) : Nat := if neg then 18442240474082181120 else 9218868437227405312
set_option maxRecDepth 100000 in
set_option maxHeartbeats 4000000 in
theorem pn_over (n : Int) (hn : n.natAbs < 9223372036854775808) (u L : Nat) (neg : Bool) (T : ExpT (tx n [101, 57, 57, 57]) u L neg) (hF : ∀ w, PfW1 w → ErrCells w → Over (tx n [101, 57, 57, 57]) w) (w : World) (hW : LawW w) (hE : ErrCells w) :
    Calls Tryz.prog 11 #[.string (tx n [101, 57, 57, 57])] w fun e w' => e = .returned (.iface 23 (.float .f64 (infW neg))) ∧ Below w.heap.size w w' := by
  have H1 := Lib.hid (int64_bad n hn 101 [57, 57, 57] (by decide) (by decide) w hW.err)
  have H2 := Lib.hid fun w => tail_at n hn 101 [57, 57, 57] (by decide) (by unfold Mark; decide) w
  have HW := Lib.hid hW
  have HE := Lib.hid hE
  have HF := Lib.hid (fun w (h1 : LawW w) (h2 : ErrCells w) => hF w h1.pf h2)
  have HP := Lib.hid fun w => prefix_at (tx n [101, 57, 57, 57]) neg (by have := T.lt; omega) T.c0 w
  have HS := Lib.hid (fun (z : Nat) (W : World) (hz : IntAt W z false (.slice none 0 0)) (tp : TypeId) (pe : Value) (hg : 1 < z) (heof : W.cell? ⟨1, 0, none⟩ = some (.iface tp pe)) => set_string (tx n [101, 57, 57, 57]) u L neg T z W hz tp pe hg heof)
  obtain ⟨s, hs⟩ : ∃ s, tx n [101, 57, 57, 57] = s := ⟨_, rfl⟩
  rw [hs] at H1 H2 HF HP HS ⊢
  clear hs hn hW hE hF T
  unfold Over at HF
  cases neg <;> (
    go_enter Tryz.func11, Tryz.ntmps11
    go_wp2_with (first
      | (go_at_call 15; refine H1.out.mono ?_; rintro e w1 ⟨⟨u, x, rfl⟩, hb⟩; have HB := Lib.hid hb; clear hb)
      | (go_at_call 17; refine (num_str s _).mono ?_; rintro e w2 ⟨rfl, rfl⟩)
      | (go_at_call 16; refine (H2.out _).mono ?_; rintro e w3 ⟨rfl, hb⟩; have HB3 := Lib.hid (HB.out.trans (hb.mono HB.out.size)); clear hb)
      | (go_at_call 18; refine (HF.out _ (HW.out.later HB3.out) (HE.out.later HB3.out)).mono ?_; rintro e w4 ⟨⟨V, u4, x4, rfl⟩, hb⟩; have HB4 := Lib.hid (HB3.out.trans (hb.mono HB3.out.size)); clear hb
         have hA4 := HB4.out.alloc HB4.out.size (.cells #[.bool false, .slice none 0 0] 54); have hE4 := HE.out.later hA4; obtain ⟨te, pe, he⟩ := hE4.eof; have hlt := (HE.out.later HB4.out).sz.2; have HSS := Lib.hid (HS.out w4.heap.size _ (heap_alloc_new w4 (.cells #[.bool false, .slice none 0 0] 54)) te pe hlt he); have HA4 := Lib.hid hA4; clear hA4 hE4 he hlt)
      | (go_at_call 19; refine HSS.out.mono ?_; rintro e w5 ⟨rfl, hb⟩; have HB5 := Lib.hid (HA4.out.trans (hb.mono HB4.out.size)); clear hb)
      | (go_at_call 20; refine (HP.out _).mono ?_; rintro e w6 ⟨rfl, rfl⟩)
      | (go_at_call 21; first | (refine (inf_pos _).mono ?_; rintro e w7 ⟨rfl, rfl⟩) | (refine (inf_neg _).mono ?_; rintro e w7 ⟨rfl, rfl⟩)))
    go_returns
    exact ⟨rfl, HB5.out⟩)
end Go.Proofs.YtngdcnljbfkneabGreatDoor
