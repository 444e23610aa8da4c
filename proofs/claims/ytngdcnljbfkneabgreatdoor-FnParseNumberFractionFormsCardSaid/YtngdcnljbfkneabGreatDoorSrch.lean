/- Contracts: the search for one of '.', 'e', 'E' in an ASCII text. -/
import Derived.Test.YtngdcnljbfkneabGreatDoorFacts
import Derived.Test.YtngdcnljbfkneabGreatDoorStr
import Derived.Laws.RangeAny
import Derived.Lib.Hide
import Derived.WalkSmall
import Derived.Below
namespace Go.Proofs.YtngdcnljbfkneabGreatDoor
open Go.RowKit Go.Lib

def setIter (w : World) (k : Nat) (s : ByteArray) (p : Nat) : World := { w with heap := w.heap.setIfInBounds k (.stringIter s p) }
theorem setIter_same {w : World} {k : Nat} {s s0 : ByteArray} {p p0 : Nat} (h : w.heap[k]? = some (.stringIter s0 p0)) : (setIter w k s p).heap[k]? = some (.stringIter s p) := by
  have hk := (Array.getElem?_eq_some_iff.1 h).1
  unfold setIter
  rw [Array.getElem?_setIfInBounds_self]
  simp [hk]
theorem setIter_size (w : World) (k : Nat) (s : ByteArray) (p : Nat) : (setIter w k s p).heap.size = w.heap.size := by simp [setIter]
theorem below_setIter {B : Nat} {w : World} {k : Nat} (s : ByteArray) (p : Nat) (hk : B ≤ k) : Below B w (setIter w k s p) := by
  refine ⟨rfl, rfl, rfl, by rw [setIter_size]; exact Nat.le_refl _, fun j hj => ?_⟩
  unfold setIter
  rw [Array.getElem?_setIfInBounds]
  rw [if_neg (by omega)]
theorem next_ascii {P : Program} (w : World) (k : Nat) (s : ByteArray) (pos : Nat) (c : Nat) (ty : TypeId) (hk : w.heap[k]? = some (.stringIter s pos)) (h : pos < s.size) (hc : (s.data.toList.getD pos 0).toNat = c) (ha : c < 128) :
    (Instr.next (.pointer (some ⟨k, 0, none⟩)) true ty).run P w = .ok (.tuple #[.bool true, .int .i64 pos, .int .i32 c]) (setIter w k s (pos + 1)) := by
  have hg : (s[pos]'h).toNat = c := by
    rw [← hc, List.getD_eq_getElem?_getD, List.getElem?_eq_getElem (show pos < s.data.toList.length from h)]
    rfl
  have hd := decode_ascii s pos h (by rw [hg]; exact ha)
  rw [hg] at hd
  have hlt := (Array.getElem?_eq_some_iff.1 hk).1
  simp [Instr.next, getObj, setObj, Sem.run, hk, Result.andThen, h, hd, goInt, setIter]
theorem next_done {P : Program} (w : World) (k : Nat) (s : ByteArray) (pos : Nat) (ty : TypeId) (hk : w.heap[k]? = some (.stringIter s pos)) (h : ¬ pos < s.size) :
    (Instr.next (.pointer (some ⟨k, 0, none⟩)) true ty).run P w = .ok (.tuple #[.bool false]) w := by
  simp [Instr.next, getObj, Sem.run, hk, h]
def chs : ByteArray := ⟨#[46, 101, 69]⟩
def Mark (c : Nat) : Prop := c = 46 ∨ c = 101 ∨ c = 69
theorem iterPos_at {w : World} {k : Nat} {s : ByteArray} {p : Nat} (h : w.heap[k]? = some (.stringIter s p)) : w.iterPos k = p := by unfold World.iterPos; rw [h]

set_option maxRecDepth 100000 in
set_option maxHeartbeats 4000000 in
theorem indexAny_at (s : ByteArray) (p : Nat) (hp : p < s.size) (_hsz : s.size ≤ 1000) (hlow : ∀ j, j < p → (s.data.toList.getD j 0).toNat < 128 ∧ ¬ Mark (s.data.toList.getD j 0).toNat) (hm : Mark (s.data.toList.getD p 0).toNat) (W : World) :
    Calls Tryz.prog 24 #[.string s, .string chs] W fun e w' => e = .returned (.int .i64 p) ∧ Below W.heap.size W w' := by
  have HLOW := Lib.hid hlow
  have HM := Lib.hid hm
  clear hlow hm
  obtain ⟨r, hr⟩ : ∃ r, W.heap.size = r := ⟨_, rfl⟩
  have hrg := fun (w : World) (t : ByteArray) => run_range_string (P := Tryz.prog) w 9 t Tryz.underlying9
  have hS : Hid (∃ i, i ≤ p ∧ (W.iter s 0).heap[r]? = some (.stringIter s i) ∧ Below r W (W.iter s 0)) := Lib.hid ⟨0, Nat.zero_le _, by rw [← hr]; exact World.iter_heap _ _ _, by rw [← hr]; exact (Below.refl _ _).alloc (Nat.le_refl _) _⟩
  have HRR := Lib.hid hr
  go_enter Tryz.func24, Tryz.ntmps24
  go_wp2
  clear hr
  go_loopw [5] (fun v5 ws => Hid (∃ i, i ≤ p ∧ ws.heap[r]? = some (.stringIter s i) ∧ Below r W ws)) (fun _ ws => s.size - ws.iterPos r)
  case atStart => exact hS
  case round =>
    obtain ⟨i, hi, hit, hb⟩ := hrel.out
    have HIT := Lib.hid hit
    have HB := Lib.hid hb
    obtain ⟨c, hc⟩ : ∃ c, (s.data.toList.getD i 0).toNat = c := ⟨_, rfl⟩
    have hc128 : c < 128 := by
      by_cases e : i = p
      · have := HM.out; rw [← e, hc] at this; unfold Mark at this; omega
      · rw [← hc]; exact (HLOW.out i (by omega)).1
    have hnx := fun ty => next_ascii (P := Tryz.prog) wr r s i c ty hit (by omega) hc hc128
    obtain ⟨w1, hw1⟩ : ∃ w1, setIter wr r s (i + 1) = w1 := ⟨_, rfl⟩
    rw [hw1] at hnx
    have HI1 : Hid (w1.heap[r]? = some (.stringIter s (i + 1))) := Lib.hid (by rw [← hw1]; exact setIter_same hit)
    have HB1 : Hid (Below r W w1) := Lib.hid (by rw [← hw1]; exact hb.trans (below_setIter s (i + 1) (Nat.le_refl _)))
    obtain ⟨k, hk⟩ : ∃ k, w1.heap.size = k := ⟨_, rfl⟩
    have hrk : r < k := by rw [← hk]; exact (Array.getElem?_eq_some_iff.1 HI1.out).1
    have hS2 : Hid (∃ q, q ≤ 3 ∧ (q = 0 ∨ c ≠ 46) ∧ (q ≤ 1 ∨ c ≠ 101) ∧ (q ≤ 2 ∨ c ≠ 69) ∧ (w1.iter chs 0).heap[k]? = some (.stringIter chs q) ∧ Below k w1 (w1.iter chs 0)) := Lib.hid ⟨0, by omega, Or.inl rfl, Or.inl (by omega), Or.inl (by omega), by rw [← hk]; exact World.iter_heap _ _ _, by rw [← hk]; exact (Below.refl _ _).alloc (Nat.le_refl _) _⟩
    have HC : Hid ((s.data.toList.getD i 0).toNat = c) := Lib.hid hc
    clear hit hb hw1 hc hrel
    unfold chs at hS2
    go_wp2
    clear hk
    go_loopw [17] (fun _ ws => Hid (∃ q, q ≤ 3 ∧ (q = 0 ∨ c ≠ 46) ∧ (q ≤ 1 ∨ c ≠ 101) ∧ (q ≤ 2 ∨ c ≠ 69) ∧ ws.heap[k]? = some (.stringIter chs q) ∧ Below k w1 ws)) (fun _ ws => 3 - ws.iterPos k)
    case atStart => exact hS2
    case round =>
      obtain ⟨q, hq, h1, h2, h3, hit, hb⟩ := hrel.out
      have HITK := Lib.hid hit
      have HBK := Lib.hid hb
      have HEND : Hid (Mark c → i = p) := Lib.hid fun hmk => by
        by_cases e : i = p
        · exact e
        · have := (HLOW.out i (by omega)).2
          rw [HC.out] at this
          exact absurd hmk this
      clear hrel
      have hq4 : q = 0 ∨ q = 1 ∨ q = 2 ∨ q = 3 := by omega
      rcases hq4 with rfl | rfl | rfl | rfl
      · have hnx := fun ty => next_ascii (P := Tryz.prog) wr k chs 0 46 ty hit (by decide) rfl (by decide)
        have HIT2 : Hid ((setIter wr k chs (0 + 1)).heap[k]? = some (.stringIter chs (0 + 1)) ∧ Below k w1 (setIter wr k chs (0 + 1))) := Lib.hid ⟨setIter_same hit, hb.trans (below_setIter chs _ (Nat.le_refl _))⟩
        obtain ⟨w2, hw2⟩ : ∃ w2, setIter wr k chs (0 + 1) = w2 := ⟨_, rfl⟩
        rw [hw2] at hnx HIT2
        clear hit hb hw2
        by_cases e : c = 46
        · have hip : i = p := HEND.out (by rw [e]; unfold Mark; omega)
          subst e
          subst hip
          clear h1 h2 h3
          go_wp2
          go_ret
          exact ⟨rfl, HRR.out ▸ (HB1.out.trans (HIT2.out.2.mono (Nat.le_of_lt hrk)))⟩
        · have ec : ((c : Int) == 46) = false := by simp; omega
          have HQ : Hid (∃ q, q ≤ 3 ∧ (q = 0 ∨ c ≠ 46) ∧ (q ≤ 1 ∨ c ≠ 101) ∧ (q ≤ 2 ∨ c ≠ 69) ∧ w2.heap[k]? = some (.stringIter chs q) ∧ Below k w1 w2) := Lib.hid ⟨0+1, by omega, by omega, by omega, by omega, HIT2.out.1, HIT2.out.2⟩
          clear h1 h2 h3 e
          go_wp2
          go_roundw
          case rel => exact HQ
          case measure => rw [iterPos_at HIT2.out.1, iterPos_at HITK.out]; omega
      · have hnx := fun ty => next_ascii (P := Tryz.prog) wr k chs 1 101 ty hit (by decide) rfl (by decide)
        have HIT2 : Hid ((setIter wr k chs (1 + 1)).heap[k]? = some (.stringIter chs (1 + 1)) ∧ Below k w1 (setIter wr k chs (1 + 1))) := Lib.hid ⟨setIter_same hit, hb.trans (below_setIter chs _ (Nat.le_refl _))⟩
        obtain ⟨w2, hw2⟩ : ∃ w2, setIter wr k chs (1 + 1) = w2 := ⟨_, rfl⟩
        rw [hw2] at hnx HIT2
        clear hit hb hw2
        by_cases e : c = 101
        · have hip : i = p := HEND.out (by rw [e]; unfold Mark; omega)
          subst e
          subst hip
          clear h1 h2 h3
          go_wp2
          go_ret
          exact ⟨rfl, HRR.out ▸ (HB1.out.trans (HIT2.out.2.mono (Nat.le_of_lt hrk)))⟩
        · have ec : ((c : Int) == 101) = false := by simp; omega
          have HQ : Hid (∃ q, q ≤ 3 ∧ (q = 0 ∨ c ≠ 46) ∧ (q ≤ 1 ∨ c ≠ 101) ∧ (q ≤ 2 ∨ c ≠ 69) ∧ w2.heap[k]? = some (.stringIter chs q) ∧ Below k w1 w2) := Lib.hid ⟨1+1, by omega, by omega, by omega, by omega, HIT2.out.1, HIT2.out.2⟩
          clear h1 h2 h3 e
          go_wp2
          go_roundw
          case rel => exact HQ
          case measure => rw [iterPos_at HIT2.out.1, iterPos_at HITK.out]; omega
      · have hnx := fun ty => next_ascii (P := Tryz.prog) wr k chs 2 69 ty hit (by decide) rfl (by decide)
        have HIT2 : Hid ((setIter wr k chs (2 + 1)).heap[k]? = some (.stringIter chs (2 + 1)) ∧ Below k w1 (setIter wr k chs (2 + 1))) := Lib.hid ⟨setIter_same hit, hb.trans (below_setIter chs _ (Nat.le_refl _))⟩
        obtain ⟨w2, hw2⟩ : ∃ w2, setIter wr k chs (2 + 1) = w2 := ⟨_, rfl⟩
        rw [hw2] at hnx HIT2
        clear hit hb hw2
        by_cases e : c = 69
        · have hip : i = p := HEND.out (by rw [e]; unfold Mark; omega)
          subst e
          subst hip
          clear h1 h2 h3
          go_wp2
          go_ret
          exact ⟨rfl, HRR.out ▸ (HB1.out.trans (HIT2.out.2.mono (Nat.le_of_lt hrk)))⟩
        · have ec : ((c : Int) == 69) = false := by simp; omega
          have HQ : Hid (∃ q, q ≤ 3 ∧ (q = 0 ∨ c ≠ 46) ∧ (q ≤ 1 ∨ c ≠ 101) ∧ (q ≤ 2 ∨ c ≠ 69) ∧ w2.heap[k]? = some (.stringIter chs q) ∧ Below k w1 w2) := Lib.hid ⟨2+1, by omega, by omega, by omega, by omega, HIT2.out.1, HIT2.out.2⟩
          clear h1 h2 h3 e
          go_wp2
          go_roundw
          case rel => exact HQ
          case measure => rw [iterPos_at HIT2.out.1, iterPos_at HITK.out]; omega
      · have hnx := fun ty => next_done (P := Tryz.prog) wr k chs 3 ty hit (by decide)
        have hnm : ¬ Mark c := by unfold Mark; omega
        have hip : i ≠ p := fun e => by
          have := HM.out
          rw [← e, HC.out] at this
          exact hnm this
        have HQ : Hid (∃ j, j ≤ p ∧ wr.heap[r]? = some (.stringIter s j) ∧ Below r W wr) := Lib.hid ⟨i + 1, by omega, (hb.block r hrk).trans HI1.out, HB1.out.trans (hb.mono (Nat.le_of_lt hrk))⟩
        have HPOS : Hid (wr.iterPos r = i + 1) := Lib.hid (iterPos_at ((hb.block r hrk).trans HI1.out))
        clear hit hb h1 h2 h3 hnm
        go_wp2
        go_roundw
        case rel => exact HQ
        case measure => rw [HPOS.out, iterPos_at HIT.out]; omega

set_option maxHeartbeats 2000000 in
theorem containsAny_at (s : ByteArray) (p : Nat) (hp : p < s.size) (hsz : s.size ≤ 1000) (hlow : ∀ j, j < p → (s.data.toList.getD j 0).toNat < 128 ∧ ¬ Mark (s.data.toList.getD j 0).toNat) (hm : Mark (s.data.toList.getD p 0).toNat) (W : World) :
    Calls Tryz.prog 16 #[.string s, .string ⟨#[46, 101, 69]⟩] W fun e w' => e = .returned (.bool true) ∧ Below W.heap.size W w' := by
  have H := Lib.hid (show Calls Tryz.prog 24 #[.string s, .string ⟨#[46, 101, 69]⟩] W fun e w' => e = .returned (.int .i64 p) ∧ Below W.heap.size W w' from indexAny_at s p hp hsz hlow hm W)
  have hp0 : (0 : Int) ≤ (p : Int) := by omega
  clear hp hsz hlow hm
  go_enter Tryz.func16, Tryz.ntmps16
  go_wp2_with (go_at_call 24; refine H.out.mono ?_; rintro e w1 ⟨rfl, hb⟩)
  go_ret
  exact ⟨rfl, hb⟩
end Go.Proofs.YtngdcnljbfkneabGreatDoor
