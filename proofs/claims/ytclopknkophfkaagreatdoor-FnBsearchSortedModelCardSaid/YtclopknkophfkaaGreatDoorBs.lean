/- Contracts: Compare of two ints, sort.Search over bsearch's closure, funcBsearch and its wrapper over arrays of ints; copies of a slice of ints. -/
import Derived.Test.YtclopknkophfkaaGreatDoorFacts
import Derived.Test.YtclopknkophfkaaGreatDoorArgs
import Derived.Handy
import Derived.WalkSpells
import Derived.WalkSmall
import Derived.Deep.OwnRows
import Derived.Deep.LoopGhost
import Derived.Deep.QuietTactic
import Derived.BigQuiet
import Derived.Lib.Hide
namespace Go.Proofs.YtclopknkophfkaaGreatDoor
open Go.RowKit Go.Deep

set_option maxRecDepth 100000 in
set_option maxHeartbeats 1000000 in
theorem compare_ii (a b c : Int) (h : (a < b ∧ c = -1) ∨ (b < a ∧ c = 1) ∨ (a = b ∧ c = 0)) (w : World) :
    Calls Tryz.prog 69 #[.iface 3 (.int .i64 a), .iface 3 (.int .i64 b)] w fun e w' => e = .returned (.int .i64 c) ∧ w' = w := by
  rcases h with ⟨h, rfl⟩ | ⟨h, rfl⟩ | ⟨rfl, rfl⟩
  · go_enter Tryz.func69, Tryz.ntmps69
    go_wp2_with go_in
    go_ret
    exact ⟨rfl, rfl⟩
  · go_enter Tryz.func69, Tryz.ntmps69
    go_wp2_with go_in
    go_ret
    exact ⟨rfl, rfl⟩
  · go_enter Tryz.func69, Tryz.ntmps69
    go_wp2_with go_in
    go_ret
    exact ⟨rfl, rfl⟩

/-- The closure that bsearch hands to sort.Search. -/
theorem bs_closure (n i : Nat) (z t : Int) (vb a1 a2 : Nat) (hi : i < n) (_hl : n ≤ 65536) (W : World)
    (h1 : W.cell? ⟨a1, 0, none⟩ = some (.slice (some ⟨vb, 0, none⟩) n n)) (h2 : W.cell? ⟨a2, 0, none⟩ = some (.iface 3 (.int .i64 t)))
    (h3 : W.cell? ⟨vb, i, none⟩ = some (.iface 3 (.int .i64 z))) :
    Calls Tryz.prog 79 #[.int .i64 i, .pointer (some ⟨a1, 0, none⟩), .pointer (some ⟨a2, 0, none⟩)] W
      fun e w' => e = .returned (.bool (decide (t ≤ z))) ∧ Below W.heap.size W w' := by
  have hiz : (i : Int) < (n : Int) := by omega
  have hc : ∃ c b, ((z < t ∧ c = -1) ∨ (t < z ∧ c = 1) ∨ (z = t ∧ c = 0)) ∧ decide (t ≤ z) = b ∧ decide (0 ≤ c) = b := by
    rcases Int.lt_trichotomy z t with h | h | h
    · exact ⟨-1, false, Or.inl ⟨h, rfl⟩, decide_eq_false (by omega), rfl⟩
    · exact ⟨0, true, Or.inr (Or.inr ⟨h, rfl⟩), decide_eq_true (by omega), rfl⟩
    · exact ⟨1, true, Or.inr (Or.inl ⟨h, rfl⟩), decide_eq_true (by omega), rfl⟩
  obtain ⟨c, b, hc, hb, hcb⟩ := hc
  rw [hb]
  clear hb
  have HC := Lib.hid hc
  clear hc
  go_enter Tryz.func79, Tryz.ntmps79
  go_wp2_with fail
  go_quiet ((go_at_call 69; exact Calls.quiet_of_same (compare_ii z t c HC.out _)))
  go_wp2
  go_ret
  exact ⟨rfl, below_dN (Below.refl _ _) _⟩

def SearchEnd (n : Nat) (p : Nat → Bool) (w : World) (e : Ending) (w' : World) : Prop :=
  ∃ k : Nat, k ≤ n ∧ e = .returned (.int .i64 k) ∧ (k = 0 ∨ p (k - 1) = false) ∧ (k = n ∨ p k = true) ∧ Below w.heap.size w w'
set_option maxHeartbeats 1000000 in
theorem search_any (g1 g2 n : Nat) (p : Nat → Bool) (w : World) (_hn : n ≤ 65536)
    (hf : ∀ (W : World) (i : Nat), i < n → Below w.heap.size w W → Calls Tryz.prog 79 #[.int .i64 i, .pointer (some ⟨g1, 0, none⟩), .pointer (some ⟨g2, 0, none⟩)] W
      fun e w' => e = .returned (.bool (p i)) ∧ Below W.heap.size W w') :
    Calls Tryz.prog 78 #[.int .i64 n, .func (.func 79) #[] #[.pointer (some ⟨g1, 0, none⟩), .pointer (some ⟨g2, 0, none⟩)]] w (SearchEnd n p w) := by
  have HF : Aside _ := hf
  clear hf
  go_enter Tryz.func78, Tryz.ntmps78
  go_wp2
  go_loopg [5, 6] n (fun kx s5 s6 wr => ∃ (lo hi : Nat), s5 = .int .i64 lo ∧ s6 = .int .i64 hi ∧ lo ≤ hi ∧ hi ≤ n ∧ hi - lo ≤ kx ∧ Hid (Below w.heap.size w wr ∧ (lo = 0 ∨ p (lo - 1) = false) ∧ (hi = n ∨ p hi = true)))
  case atStart => exact ⟨0, n, rfl, rfl, Nat.zero_le _, Nat.le_refl _, by omega, Lib.hid ⟨Below.refl _ _, Or.inl rfl, Or.inl rfl⟩⟩
  case round =>
    obtain ⟨lo, hi, rfl, rfl, hlh, hin, hg, I⟩ := hrel
    by_cases hlt : lo < hi
    · have hc := HF.out wr ((lo + hi) / 2) (by omega) I.out.1
      rw [show (((lo + hi) / 2 : Nat) : Int) = ((lo : Int) + (hi : Int)) / 2 by omega] at hc
      cases hp : p ((lo + hi) / 2) <;> rw [hp] at hc
      · have HP := Lib.hid hp
        clear hp
        go_wp2_with (go_at_call 79; refine hc.mono ?_; rintro e w' ⟨rfl, hb⟩)
        go_roundg (hi - ((lo + hi) / 2 + 1))
        case measure => omega
        case rel => exact ⟨(lo + hi) / 2 + 1, hi, by rw [show ((lo : Int) + (hi : Int)) / 2 + 1 = (((lo + hi) / 2 + 1 : Nat) : Int) by omega], rfl, by omega, hin, Nat.le_refl _, Lib.hid ⟨I.out.1.trans (hb.mono I.out.1.size), Or.inr (by rw [Nat.add_sub_cancel]; exact HP.out), I.out.2.2⟩⟩
      · have HP := Lib.hid hp
        clear hp
        go_wp2_with (go_at_call 79; refine hc.mono ?_; rintro e w' ⟨rfl, hb⟩)
        go_roundg ((lo + hi) / 2 - lo)
        case measure => omega
        case rel => exact ⟨lo, (lo + hi) / 2, rfl, by rw [show ((lo : Int) + (hi : Int)) / 2 = (((lo + hi) / 2 : Nat) : Int) by omega], by omega, by omega, Nat.le_refl _, Lib.hid ⟨I.out.1.trans (hb.mono I.out.1.size), I.out.2.1, Or.inr HP.out⟩⟩
    · obtain rfl : hi = lo := by omega
      go_wp2
      go_ret
      exact ⟨hi, hin, rfl, I.out.2.1, I.out.2.2, I.out.1⟩

/-- What bsearch answers: the place k that the search found, its neighbours, and the number made of it. -/
def BsAns (zs : List Int) (n : Nat) (t r : Int) : Prop :=
  ∃ k : Nat, k ≤ n ∧ (k = 0 ∨ zs.getD (k - 1) 0 < t) ∧ (k = n ∨ t ≤ zs.getD k 0) ∧ ((k < n ∧ zs.getD k 0 = t ∧ r = k) ∨ ((k < n → zs.getD k 0 ≠ t) ∧ r = -(k : Int) - 1))
def BsEnd (zs : List Int) (n : Nat) (t : Int) (W : World) (e : Ending) (w' : World) : Prop :=
  ∃ r : Int, e = .returned (.iface 3 (.int .i64 r)) ∧ BsAns zs n t r ∧ Below W.heap.size W w'
def RowInts (W : World) (vb n : Nat) (zs : List Int) : Prop := vb < W.heap.size ∧ ∀ i, i < n → W.cell? ⟨vb, i, none⟩ = some (.iface 3 (.int .i64 (zs.getD i 0)))
set_option maxHeartbeats 2000000 in
theorem bsearch_any (zs : List Int) (n : Nat) (t : Int) (vb : Nat) (hl : n ≤ 65536) (W : World) (hrow : RowInts W vb n zs) :
    Calls Tryz.prog 58 #[.iface 82 (.slice (some ⟨vb, 0, none⟩) n n), .iface 3 (.int .i64 t)] W (BsEnd zs n t W) := by
  go_enter Tryz.func58, Tryz.ntmps58
  go_wp2_with fail
  refine (search_any _ _ n (fun i => decide (t ≤ zs.getD i 0)) _ hl ?hf).mono ?_
  case hf =>
    intro W' i hi hb
    refine bs_closure n i (zs.getD i 0) t vb _ _ hi hl W' ?_ ?_ ?_
    · exact (hb.cell (p := ⟨W.heap.size + 1, 0, none⟩) (by first | (simp; done) | (simp; omega))).trans (by go_cell)
    · exact (hb.cell (p := ⟨W.heap.size, 0, none⟩) (by first | (simp; done) | (simp; omega))).trans (by go_cell)
    · exact (hb.cell (p := ⟨vb, i, none⟩) (by have := hrow.1; simp; omega)).trans (by have h := hrow.2 i hi; have h0 := hrow.1; go_cell)
  rintro e w1 ⟨k, hk, rfl, hlo, hhi, hb⟩
  have c1 : w1.cell? ⟨W.heap.size + 1, 0, none⟩ = some (.slice (some ⟨vb, 0, none⟩) n n) := (hb.cell (p := ⟨W.heap.size + 1, 0, none⟩) (by first | (simp; done) | (simp; omega))).trans (by go_cell)
  have c2 : w1.cell? ⟨W.heap.size, 0, none⟩ = some (.iface 3 (.int .i64 t)) := (hb.cell (p := ⟨W.heap.size, 0, none⟩) (by first | (simp; done) | (simp; omega))).trans (by go_cell)
  have hB : Below W.heap.size W w1 := Below.trans (by go_grown) (hb.mono (by simp; omega))
  have HB := Lib.hid hB
  have H1 := Lib.hid hlo
  have H2 := Lib.hid hhi
  clear hb hB hlo hhi
  by_cases hkn : k < n
  · have c3 : w1.cell? ⟨vb, k, none⟩ = some (.iface 3 (.int .i64 (zs.getD k 0))) := (HB.out.cell (p := ⟨vb, k, none⟩) hrow.1).trans (hrow.2 k hkn)
    obtain ⟨z, hz⟩ : ∃ z, zs.getD k 0 = z := ⟨_, rfl⟩
    rw [hz] at c3
    have HZ := Lib.hid hz
    clear hz
    have hR := Lib.hid hrow
    clear hrow
    have hkz : (k : Int) < (n : Int) := by omega
    have hdk : decide ((k : Int) < (n : Int)) = true := decide_eq_true hkz
    by_cases he : z = t
    · subst he
      go_wp2_with fail
      go_quiet ((go_at_call 69; exact Calls.quiet_of_same (compare_ii z z 0 (Or.inr (Or.inr ⟨rfl, rfl⟩)) _)))
      go_wp2
      go_ret
      exact ⟨k, rfl, ⟨k, hk, by simpa using H1.out, by simpa using H2.out, Or.inl ⟨hkn, HZ.out, rfl⟩⟩, below_dN HB.out _⟩
    · have hc : ∃ c, ((z < t ∧ c = -1) ∨ (t < z ∧ c = 1) ∨ (z = t ∧ c = 0)) ∧ (c == 0) = false := by
        by_cases h : z < t
        · exact ⟨-1, Or.inl ⟨h, rfl⟩, rfl⟩
        · exact ⟨1, Or.inr (Or.inl ⟨by omega, rfl⟩), rfl⟩
      obtain ⟨c, hc, hc0⟩ := hc
      have HC := Lib.hid hc
      have HE := Lib.hid he
      clear hc he
      go_wp2_with fail
      go_quiet ((go_at_call 69; exact Calls.quiet_of_same (compare_ii z t c HC.out _)))
      go_wp2
      go_ret
      exact ⟨-(k : Int) - 1, rfl, ⟨k, hk, by simpa using H1.out, by simpa using H2.out, Or.inr ⟨fun _ => by rw [HZ.out]; exact HE.out, rfl⟩⟩, below_dN HB.out _⟩
  · have hd : decide ((k : Int) < (n : Int)) = false := decide_eq_false (by omega)
    have hR := Lib.hid hrow
    clear hrow
    go_wp2_with fail
    go_quiet (fail)
    go_wp2
    go_ret
    exact ⟨-(k : Int) - 1, rfl, ⟨k, hk, by simpa using H1.out, by simpa using H2.out, Or.inr ⟨fun h => absurd h hkn, rfl⟩⟩, below_dN HB.out _⟩

/-! ### Slices of ints: read, copied, turned into values -/
/-- A slice value of n ints: where n is not 0 its cells are known. -/
def IntsAt (w : World) (v : Value) (zs : List Int) (n : Nat) : Prop :=
  ∃ a cap, v = .slice a n cap ∧ (0 < n → ∃ b off, a = some ⟨b, off, none⟩ ∧ b < w.heap.size ∧ ∀ i, i < n → w.cell? ⟨b, off + i, none⟩ = some (.int .i64 (zs.getD i 0)))
theorem intsAt_arg {w : World} {v : Value} {zs : List Int} (h : IntArg w v zs) : IntsAt w v zs zs.length := by
  rcases h with ⟨rfl, rfl⟩ | ⟨a, cap, rfl, rfl⟩ | ⟨b, off, cap, rfl, h0, hb, hc⟩
  · exact ⟨_, _, rfl, fun h => absurd h (by simp)⟩
  · exact ⟨_, _, rfl, fun h => absurd h (by simp)⟩
  · exact ⟨_, _, rfl, fun _ => ⟨b, off, rfl, hb, hc⟩⟩
theorem IntsAt.later {w w' : World} {v : Value} {zs : List Int} {n : Nat} (h : IntsAt w v zs n) (hb : Below w.heap.size w w') : IntsAt w' v zs n := by
  obtain ⟨a, cap, rfl, hc⟩ := h
  refine ⟨a, cap, rfl, fun h0 => ?_⟩
  obtain ⟨b, off, rfl, hlt, hcc⟩ := hc h0
  exact ⟨b, off, rfl, Nat.lt_of_lt_of_le hlt hb.size, fun i hi => (hb.cell (p := ⟨b, off + i, none⟩) hlt).trans (hcc i hi)⟩
theorem info_int : (Tryz.prog.info? 3).map (fun i => (i.zero, i.size, i.bytes)) = some (some (.int .i64 0), 1, 8) := by kernel_rfl
theorem info_any : (Tryz.prog.info? 20).map (fun i => (i.zero, i.size, i.bytes)) = some (some .nilIface, 1, 16) := by kernel_rfl
def fillI (f : Int → Value) (z0 : Value) (zs : List Int) (k : Nat) : Nat → Value := fun j => if j < k then f (zs.getD j 0) else z0
theorem fillI_set {w : World} {B : Nat} {T : TypeId} {n k : Nat} {f : Int → Value} {z0 : Value} {zs : List Int} (h : w.rowIs B T n (fillI f z0 zs k)) (v : Value) (hv : v = f (zs.getD k 0)) :
    (w.setCell ⟨B, k, none⟩ v).rowIs B T n (fillI f z0 zs (k + 1)) := by
  refine (h.set k v).congr fun j _ => ?_
  unfold fillI
  by_cases c : j = k
  · subst c
    rw [if_pos rfl, if_pos (by omega), hv]
  · rw [if_neg c]
    by_cases c2 : j < k
    · rw [if_pos c2, if_pos (by omega)]
    · rw [if_neg c2, if_neg (by omega)]
theorem fillI_start {w : World} {B : Nat} {T : TypeId} {n : Nat} {f : Int → Value} {z0 : Value} {zs : List Int} (h : w.rowIs B T n (fun _ => z0)) : w.rowIs B T n (fillI f z0 zs 0) :=
  h.congr fun j _ => by unfold fillI; rw [if_neg (Nat.not_lt_zero _)]
theorem fillI_cell {w : World} {B : Nat} {T : TypeId} {n k : Nat} {f : Int → Value} {z0 : Value} {zs : List Int} (h : w.rowIs B T n (fillI f z0 zs k)) {i : Nat} (hi : i < n) (hk : i < k) : w.cell? ⟨B, i, none⟩ = some (f (zs.getD i 0)) := by
  have := h.cell hi
  unfold fillI at this
  rwa [if_pos hk] at this
theorem fillI_old {w : World} {B : Nat} {T : TypeId} {n k : Nat} {f : Int → Value} {z0 : Value} {zs : List Int} (h : w.rowIs B T n (fillI f z0 zs k)) {i : Nat} (hi : i < n) (hk : ¬ i < k) : w.cell? ⟨B, i, none⟩ = some z0 := by
  have := h.cell hi
  unfold fillI at this
  rwa [if_neg hk] at this

def ZzBsEnd (zs : List Int) (n : Nat) (t : Int) (W : World) (e : Ending) (w' : World) : Prop :=
  ∃ r : Int, e = .returned (.tuple #[.int .i64 r, .bool true]) ∧ BsAns zs n t r ∧ Below W.heap.size W w'
set_option maxHeartbeats 2000000 in
theorem zzbsearch_any (zs : List Int) (n : Nat) (t : Int) (v : Value) (hl : n ≤ 65536) (W : World) (hv : IntsAt W v zs n) :
    Calls Tryz.prog 30 #[v, .int .i64 t] W (ZzBsEnd zs n t W) := by
  obtain ⟨a, cap, rfl, hcc⟩ := hv
  have HC := Lib.hid hcc
  clear hcc
  have hmk := fun w => run_make_row' (P := Tryz.prog) 82 20 .nilIface 16 Tryz.underlying82 info_any rfl .i64 .i64 n (by omega) (by omega) w
  have hS : Hid (Below W.heap.size W (W.alloc (.cells (madeCells #[.nilIface] n) 20)) ∧ (W.alloc (.cells (madeCells #[.nilIface] n) 20)).rowIs W.heap.size 20 n (fillI (fun z => .iface 3 (.int .i64 z)) .nilIface zs 0)) :=
    Lib.hid ⟨(Below.refl _ _).alloc (Nat.le_refl _) _, fillI_start (World.rowIs_made W _ n _)⟩
  go_enter Tryz.func30, Tryz.ntmps30
  go_wp2
  go_loopw [15] (fun i wr => ∃ k : Nat, k ≤ n ∧ i = .int .i64 k ∧ Hid (Below W.heap.size W wr ∧ wr.rowIs W.heap.size 20 n (fillI (fun z => .iface 3 (.int .i64 z)) .nilIface zs k))) (fun i _ => n - (intOf i).toNat)
  case atStart => exact ⟨0, Nat.zero_le _, rfl, hS⟩
  case round =>
    obtain ⟨k, hk, rfl, HR⟩ := hrel
    by_cases hlt : k < n
    · obtain ⟨b, off, rfl, hbl, hcell⟩ := HC.out (by omega)
      have hcx : wr.cell? ⟨b, off + k, none⟩ = some (.int .i64 (zs.getD k 0)) := (HR.out.1.cell (p := ⟨b, off + k, none⟩) hbl).trans (hcell k hlt)
      clear hcell
      obtain ⟨z, hz⟩ : ∃ z, zs.getD k 0 = z := ⟨_, rfl⟩
      rw [hz] at hcx
      have HZ := Lib.hid hz
      clear hz
      have hco := fillI_old HR.out.2 hlt (Nat.lt_irrefl _)
      have hfo := HR.out.2.frozen k
      go_wp2
      go_roundw
      case rel => exact ⟨k + 1, by omega, by go_num, Lib.hid ⟨HR.out.1.setCell (Nat.le_refl _) _, fillI_set HR.out.2 _ (by rw [HZ.out])⟩⟩
      case measure => simp [intOf]; omega
    · obtain rfl : k = n := by omega
      have hri : RowInts wr W.heap.size k zs := ⟨HR.out.2.lt, fun i hi => fillI_cell HR.out.2 hi hi⟩
      have HI := Lib.hid hri
      clear hri
      go_wp2_with (go_at_call 58; refine (bsearch_any zs k t _ hl _ HI.out).mono ?_; rintro e w1 ⟨r, rfl, ha, hb1⟩)
      go_ret2
      exact ⟨r, rfl, ha, HR.out.1.trans (hb1.mono HR.out.1.size)⟩

def CloneEnd (zs : List Int) (n : Nat) (W : World) (e : Ending) (w' : World) : Prop := ∃ v, e = .returned v ∧ IntsAt w' v zs n ∧ Below W.heap.size W w'
set_option maxHeartbeats 2000000 in
theorem clone42_any (zs : List Int) (n : Nat) (v : Value) (hl : n ≤ 65536) (W : World) (hv : IntsAt W v zs n) :
    Calls Tryz.prog 29 #[v] W (CloneEnd zs n W) := by
  obtain ⟨a, cap, rfl, hcc⟩ := hv
  have HC := Lib.hid hcc
  clear hcc
  have hnil := fun w a n c n' c' => Lib.run_eql_slice_nil (P := Tryz.prog) w 32 _ a n c n' c' Tryz.underlying32
  cases a with
  | none =>
    have h0 : n = 0 := by
      rcases Nat.eq_zero_or_pos n with h | h
      · exact h
      · obtain ⟨b, off, hx, _⟩ := HC.out h
        cases hx
    subst h0
    go_enter Tryz.func29, Tryz.ntmps29
    go_wp2
    go_ret
    exact ⟨_, rfl, ⟨none, 0, rfl, fun h => absurd h (Nat.lt_irrefl _)⟩, Below.refl _ _⟩
  | some ad =>
    have hmk := fun w => run_make_row' (P := Tryz.prog) 32 3 (.int .i64 0) 8 Tryz.underlying32 info_int rfl .i64 .i64 n (by omega) (by omega) w
    have hS : Hid (Below W.heap.size W (W.alloc (.cells (madeCells #[.int .i64 0] n) 3)) ∧ (W.alloc (.cells (madeCells #[.int .i64 0] n) 3)).rowIs W.heap.size 3 n (fillI (fun z => .int .i64 z) (.int .i64 0) zs 0)) :=
      Lib.hid ⟨(Below.refl _ _).alloc (Nat.le_refl _) _, fillI_start (World.rowIs_made W _ n _)⟩
    go_enter Tryz.func29, Tryz.ntmps29
    go_wp2
    go_loopw [4] (fun i wr => ∃ k : Nat, k ≤ n ∧ i = .int .i64 k ∧ Hid (Below W.heap.size W wr ∧ wr.rowIs W.heap.size 3 n (fillI (fun z => .int .i64 z) (.int .i64 0) zs k))) (fun i _ => n - (intOf i).toNat)
    case atStart => exact ⟨0, Nat.zero_le _, rfl, hS⟩
    case round =>
      obtain ⟨k, hk, rfl, HR⟩ := hrel
      by_cases hlt : k < n
      · obtain ⟨b, off, hx, hbl, hcell⟩ := HC.out (by omega)
        cases hx
        have hcx : wr.cell? ⟨b, off + k, none⟩ = some (.int .i64 (zs.getD k 0)) := (HR.out.1.cell (p := ⟨b, off + k, none⟩) hbl).trans (hcell k hlt)
        clear hcell
        obtain ⟨z, hz⟩ : ∃ z, zs.getD k 0 = z := ⟨_, rfl⟩
        rw [hz] at hcx
        have HZ := Lib.hid hz
        clear hz
        have hco := fillI_old HR.out.2 hlt (Nat.lt_irrefl _)
        have hfo := HR.out.2.frozen k
        go_wp2
        go_roundw
        case rel => exact ⟨k + 1, by omega, by go_num, Lib.hid ⟨HR.out.1.setCell (Nat.le_refl _) _, fillI_set HR.out.2 _ (by rw [HZ.out])⟩⟩
        case measure => simp [intOf]; omega
      · obtain rfl : k = n := by omega
        go_wp2
        go_ret
        exact ⟨_, rfl, ⟨_, k, rfl, fun _ => ⟨W.heap.size, 0, rfl, HR.out.2.lt, fun i hi => by rw [Nat.zero_add]; exact fillI_cell HR.out.2 hi hi⟩⟩, HR.out.1⟩

/-- Each element is at most the next. -/
def ndB (zs : List Int) (n : Nat) : Bool := (List.range (n - 1)).all fun j => decide (zs.getD j 0 ≤ zs.getD (j + 1) 0)
theorem ndB_false {zs : List Int} {n j : Nat} (hj : j + 1 < n) (h : zs.getD (j + 1) 0 < zs.getD j 0) : ndB zs n = false := by
  unfold ndB
  rw [List.all_eq_false]
  exact ⟨j, by simp; omega, by simp; simpa using h⟩
theorem ndB_true {zs : List Int} {n : Nat} (h : ∀ j, j + 1 < n → zs.getD j 0 ≤ zs.getD (j + 1) 0) : ndB zs n = true := by
  unfold ndB
  rw [List.all_eq_true]
  intro j hj
  have := h j (by simp at hj; omega)
  simpa using this
theorem ndB_le {zs : List Int} {n : Nat} (h : ndB zs n = true) : ∀ (d i : Nat), i + d < n → zs.getD i 0 ≤ zs.getD (i + d) 0
  | 0, i, _ => Int.le_refl _
  | d + 1, i, hd => by
    have h1 := ndB_le h d i (by omega)
    unfold ndB at h
    rw [List.all_eq_true] at h
    have h2 := h (i + d) (by simp; omega)
    have h3 : zs.getD (i + d) 0 ≤ zs.getD (i + d + 1) 0 := by simpa using h2
    exact Int.le_trans h1 h3
set_option maxHeartbeats 2000000 in
theorem nondec_any (zs : List Int) (n : Nat) (v : Value) (hl : n ≤ 65536) (W : World) (hv : IntsAt W v zs n) :
    Calls Tryz.prog 38 #[v] W fun e w' => e = .returned (.bool (ndB zs n)) ∧ Below W.heap.size W w' := by
  obtain ⟨a, cap, rfl, hcc⟩ := hv
  have HC := Lib.hid hcc
  clear hcc
  go_enter Tryz.func38, Tryz.ntmps38
  go_wp2
  go_loopw [3] (fun i wr => ∃ k : Nat, 1 ≤ k ∧ k ≤ n + 1 ∧ i = .int .i64 k ∧ Hid (Below W.heap.size W wr ∧ ∀ j, j + 1 < k → zs.getD j 0 ≤ zs.getD (j + 1) 0)) (fun i _ => n - (intOf i).toNat)
  case atStart => exact ⟨1, Nat.le_refl _, by omega, rfl, Lib.hid ⟨Below.refl _ _, fun j hj => absurd hj (by omega)⟩⟩
  case round =>
    obtain ⟨k, hk1, hk, rfl, HR⟩ := hrel
    by_cases hlt : k < n
    · obtain ⟨b, off, rfl, hbl, hcell⟩ := HC.out (by omega)
      obtain ⟨j, rfl⟩ : ∃ j, k = j + 1 := ⟨k - 1, by omega⟩
      have hc1 : wr.cell? ⟨b, off + j, none⟩ = some (.int .i64 (zs.getD j 0)) := (HR.out.1.cell (p := ⟨b, off + j, none⟩) hbl).trans (hcell j (by omega))
      have hc2 : wr.cell? ⟨b, off + (j + 1), none⟩ = some (.int .i64 (zs.getD (j + 1) 0)) := (HR.out.1.cell (p := ⟨b, off + (j + 1), none⟩) hbl).trans (hcell (j + 1) hlt)
      clear hcell
      obtain ⟨x, hx⟩ : ∃ x, zs.getD j 0 = x := ⟨_, rfl⟩
      obtain ⟨y, hy⟩ : ∃ y, zs.getD (j + 1) 0 = y := ⟨_, rfl⟩
      rw [hx] at hc1
      rw [hy] at hc2
      have HX := Lib.hid hx
      have HY := Lib.hid hy
      clear hx hy
      have e1 : (((j + 1 : Nat) : Int)) = (j : Int) + 1 := by omega
      rw [e1]
      clear e1
      have b1 : (j : Int) + 1 < (n : Int) := by omega
      have b2 : (j : Int) < (n : Int) := by omega
      by_cases hxy : y < x
      · go_wp2_with fail
        go_quiet (fail)
        go_wp2
        go_ret
        exact ⟨by rw [ndB_false hlt (by rw [HX.out, HY.out]; exact hxy)]; rfl, below_dN HR.out.1 _⟩
      · go_wp2_with fail
        go_quiet (fail)
        go_wp2
        go_roundw
        case rel => exact ⟨j + 1 + 1, by omega, by omega, by go_num, Lib.hid ⟨below_dN HR.out.1 _, fun i hi => by
          by_cases c : i = j
          · subst c; rw [HX.out, HY.out]; omega
          · exact HR.out.2 i (by omega)⟩⟩
        case measure => simp [intOf]; omega
    · go_wp2
      go_ret
      exact ⟨by rw [ndB_true fun j hj => HR.out.2 j (by omega)]; rfl, HR.out.1⟩

/-! ### The laws -/
theorem zzbA_any (n cap : Nat) (a : Option Addr) (t : Int) (h : n ≤ 1048576) (w : World) : Calls Tryz.prog 28 #[.slice a n cap, .int .i64 t] w fun e w' => e = .returned (.bool true) ∧ w = w' := by
  go_enter Tryz.func28, Tryz.ntmps28
  go_wp2
  go_ret
  exact ⟨rfl, rfl⟩
theorem zzbA_big (n cap : Nat) (a : Option Addr) (t : Int) (h : 1048576 < n) (w : World) : Calls Tryz.prog 28 #[.slice a n cap, .int .i64 t] w fun e w' => e = .returned (.bool false) ∧ w = w' := by
  go_enter Tryz.func28, Tryz.ntmps28
  go_wp2
  go_ret
  exact ⟨rfl, rfl⟩
theorem zzbS_any (n cap : Nat) (a : Option Addr) (t : Int) (h : n ≤ 1048576) (w : World) : Calls Tryz.prog 37 #[.slice a n cap, .int .i64 t] w fun e w' => e = .returned (.bool true) ∧ w = w' := by
  go_enter Tryz.func37, Tryz.ntmps37
  go_wp2
  go_ret
  exact ⟨rfl, rfl⟩
theorem zzbS_big (n cap : Nat) (a : Option Addr) (t : Int) (h : 1048576 < n) (w : World) : Calls Tryz.prog 37 #[.slice a n cap, .int .i64 t] w fun e w' => e = .returned (.bool false) ∧ w = w' := by
  go_enter Tryz.func37, Tryz.ntmps37
  go_wp2
  go_ret
  exact ⟨rfl, rfl⟩
/-- The argument's length, whatever its size. -/
theorem ints_len {w : World} {v : Value} {zs : List Int} (h : IntArg w v zs) : ∃ n, zs.length = n ∧ IntsAt w v zs n := ⟨_, rfl, intsAt_arg h⟩
/-- How many of the first k elements lie below t. -/
def cntLt (zs : List Int) (t : Int) : Nat → Nat
  | 0 => 0
  | k + 1 => cntLt zs t k + if zs.getD k 0 < t then 1 else 0
theorem cnt_le (zs : List Int) (t : Int) : ∀ k, cntLt zs t k ≤ k
  | 0 => Nat.le_refl _
  | k + 1 => by
    have := cnt_le zs t k
    unfold cntLt
    split <;> omega
theorem cnt_all {zs : List Int} {t : Int} : ∀ k, (∀ j, j < k → zs.getD j 0 < t) → cntLt zs t k = k
  | 0, _ => rfl
  | k + 1, h => by
    have := cnt_all k (fun j hj => h j (by omega))
    unfold cntLt
    rw [this, if_pos (h k (by omega))]
theorem cnt_none {zs : List Int} {t : Int} (k : Nat) : ∀ d, (∀ j, k ≤ j → j < k + d → ¬ zs.getD j 0 < t) → cntLt zs t (k + d) = cntLt zs t k
  | 0, _ => rfl
  | d + 1, h => by
    have := cnt_none k d (fun j h1 h2 => h j h1 (by omega))
    show cntLt zs t (k + d) + (if zs.getD (k + d) 0 < t then 1 else 0) = _
    rw [if_neg (h (k + d) (by omega) (by omega)), this]
    rfl
/-- Of a sorted row the place that bsearch finds is the count of what lies below t. -/
theorem bs_count {zs : List Int} {n : Nat} {t r : Int} (hs : ndB zs n = true) (ha : BsAns zs n t r) :
    (cntLt zs t n < n → zs.getD (cntLt zs t n) 0 = t → r = cntLt zs t n) ∧ ((cntLt zs t n < n → zs.getD (cntLt zs t n) 0 ≠ t) → r = -(cntLt zs t n : Int) - 1) := by
  obtain ⟨k, hk, hlo, hhi, hc⟩ := ha
  have e : cntLt zs t n = k := by
    have h1 : cntLt zs t k = k := cnt_all k fun j hj => by
      rcases hlo with h0 | h0
      · omega
      · have := ndB_le hs (k - 1 - j) j (by omega)
        rw [show j + (k - 1 - j) = k - 1 from by omega] at this
        omega
    have h2 := cnt_none (zs := zs) (t := t) k (n - k) fun j h3 h4 => by
      rcases hhi with h0 | h0
      · omega
      · have := ndB_le hs (j - k) k (by omega)
        rw [show k + (j - k) = j from by omega] at this
        omega
    rw [show k + (n - k) = n from by omega] at h2
    rw [h2, h1]
  rw [e]
  rcases hc with ⟨h1, h2, rfl⟩ | ⟨h1, rfl⟩
  · exact ⟨fun _ _ => rfl, fun h => absurd h2 (h h1)⟩
  · exact ⟨fun h3 h4 => absurd h4 (h1 h3), fun _ => rfl⟩

set_option maxHeartbeats 2000000 in
theorem walk_FnBsearchAnswerBounded (W : World) (v : Value) (zs : List Int) (hv0 : IntArg W v zs) (_wz : ∀ z ∈ zs, (Lit.int .i64 z).wf = true) (t : Int) (_wt : (Lit.int .i64 t).wf = true) :
    Calls Tryz.prog 6 #[v, .int .i64 t] W fun e w' => e = .returned (.bool true) ∧ Below W.heap.size W w' := by
  obtain ⟨n, hn, hv⟩ := ints_len hv0
  clear hv0 hn _wz
  obtain ⟨a, cap, rfl, hcc⟩ := hv
  have HC := Lib.hid hcc
  clear hcc
  by_cases c1 : 1048576 < n
  · go_enter Tryz.func6, Tryz.ntmps6
    go_wp2_with (go_at_call 28; refine (zzbA_big n cap a t c1 _).mono ?_; rintro e w' ⟨rfl, rfl⟩)
    go_ret
    exact ⟨rfl, Below.refl _ _⟩
  · have hm : n ≤ 1048576 := by omega
    by_cases c2 : 65536 < n
    · go_enter Tryz.func6, Tryz.ntmps6
      go_wp2_with (go_at_call 28; refine (zzbA_any n cap a t hm _).mono ?_; rintro e w' ⟨rfl, rfl⟩)
      go_ret
      exact ⟨rfl, Below.refl _ _⟩
    · have hle : n ≤ 65536 := by omega
      go_enter Tryz.func6, Tryz.ntmps6
      go_wp2_with (go_at_call 28; refine (zzbA_any n cap a t hm _).mono ?_; rintro e w' ⟨rfl, rfl⟩)
      refine (clone42_any zs n _ hle _ ⟨a, cap, rfl, HC.out⟩).mono ?_
      rintro e w1 ⟨v1, rfl, ⟨a1, cap1, rfl, hc1⟩, hb1⟩
      have HC1 := Lib.hid hc1
      have HB1 := Lib.hid hb1
      clear hc1 hb1
      go_wp2_with fail
      refine (zzbsearch_any zs n t _ hle _ ⟨a1, cap1, rfl, HC1.out⟩).mono ?_
      rintro e w2 ⟨r, rfl, ⟨k, hk, hlo, hhi, hcase⟩, hb2⟩
      have HB2 := Lib.hid (HB1.out.trans (hb2.mono HB1.out.size))
      clear hlo hhi
      rcases hcase with ⟨hkn, hz, rfl⟩ | ⟨hne, rfl⟩
      · obtain ⟨b, off, rfl, hbl, hcell⟩ := HC1.out (by omega)
        have hcx : w2.cell? ⟨b, off + k, none⟩ = some (.int .i64 t) := (hb2.cell (p := ⟨b, off + k, none⟩) hbl).trans ((hcell k hkn).trans (by rw [hz]))
        clear hcell hz hb2
        go_wp2
        go_ret
        exact ⟨rfl, HB2.out⟩
      · clear hne hb2
        go_wp2
        go_ret
        exact ⟨rfl, HB2.out⟩

set_option maxHeartbeats 4000000 in
theorem walk_FnBsearchSortedModel (W : World) (v : Value) (zs : List Int) (hv0 : IntArg W v zs) (_wz : ∀ z ∈ zs, (Lit.int .i64 z).wf = true) (t : Int) (_wt : (Lit.int .i64 t).wf = true) :
    Calls Tryz.prog 8 #[v, .int .i64 t] W fun e w' => e = .returned (.bool true) ∧ Below W.heap.size W w' := by
  obtain ⟨n, hn, hv⟩ := ints_len hv0
  clear hv0 hn _wz
  obtain ⟨a, cap, rfl, hcc⟩ := hv
  have HC := Lib.hid hcc
  clear hcc
  by_cases c1 : 1048576 < n
  · go_enter Tryz.func8, Tryz.ntmps8
    go_wp2_with (go_at_call 37; refine (zzbS_big n cap a t c1 _).mono ?_; rintro e w' ⟨rfl, rfl⟩)
    go_ret
    exact ⟨rfl, Below.refl _ _⟩
  · have hm : n ≤ 1048576 := by omega
    by_cases c2 : 65536 < n
    · go_enter Tryz.func8, Tryz.ntmps8
      go_wp2_with (go_at_call 37; refine (zzbS_any n cap a t hm _).mono ?_; rintro e w' ⟨rfl, rfl⟩)
      go_ret
      exact ⟨rfl, Below.refl _ _⟩
    · have hle : n ≤ 65536 := by omega
      have ND := nondec_any zs n (.slice a n cap) hle W ⟨a, cap, rfl, HC.out⟩
      cases hnd : ndB zs n
      · rw [hnd] at ND
        clear hnd
        go_enter Tryz.func8, Tryz.ntmps8
        go_wp2_with (go_at_call 37; refine (zzbS_any n cap a t hm _).mono ?_; rintro e w' ⟨rfl, rfl⟩)
        refine ND.mono ?_
        rintro e w1 ⟨rfl, hb1⟩
        have HB1 := Lib.hid hb1
        clear hb1
        go_wp2
        go_ret
        exact ⟨rfl, HB1.out⟩
      · rw [hnd] at ND
        have HN := Lib.hid hnd
        clear hnd
        go_enter Tryz.func8, Tryz.ntmps8
        go_wp2_with (go_at_call 37; refine (zzbS_any n cap a t hm _).mono ?_; rintro e w' ⟨rfl, rfl⟩)
        refine ND.mono ?_
        rintro e w0 ⟨rfl, hb0⟩
        have HB0 := Lib.hid hb0
        clear hb0
        have hv0 : IntsAt w0 (.slice a n cap) zs n := IntsAt.later ⟨a, cap, rfl, HC.out⟩ HB0.out
        have HV0 := Lib.hid hv0
        clear hv0 ND
        go_wp2_with fail
        refine (clone42_any zs n _ hle _ HV0.out).mono ?_
        rintro e w1 ⟨v1, rfl, ⟨a1, cap1, rfl, hc1⟩, hb1⟩
        have HC1 := Lib.hid hc1
        have HB1 := Lib.hid (HB0.out.trans (hb1.mono HB0.out.size))
        clear hc1 hb1
        go_wp2_with fail
        go_loop [5, 6] (fun ip i => ∃ k c : Nat, k ≤ n ∧ c ≤ k ∧ i = .int .i64 k ∧ ip = .int .i64 c ∧ Hid (cntLt zs t k = c)) (fun _ i => n - (intOf i).toNat)
        case atStart => exact ⟨0, 0, Nat.zero_le _, Nat.le_refl _, rfl, rfl, Lib.hid rfl⟩
        case round =>
          obtain ⟨k, c, hk, hck, rfl, rfl, HK⟩ := hrel
          by_cases hlt : k < n
          · obtain ⟨b, off, rfl, hbl, hcell⟩ := HC1.out (by omega)
            have hcx := hcell k hlt
            clear hcell
            obtain ⟨z, hz⟩ : ∃ z, zs.getD k 0 = z := ⟨_, rfl⟩
            rw [hz] at hcx
            have HZ := Lib.hid hz
            clear hz
            by_cases hzt : z < t
            · go_wp2_with fail
              go_round
              case rel => exact ⟨k + 1, c + 1, by omega, by omega, by go_num, by go_num, Lib.hid (by show cntLt zs t k + _ = _; rw [HK.out, HZ.out, if_pos hzt])⟩
              case measure => simp [intOf]; omega
            · go_wp2_with fail
              go_round
              case rel => exact ⟨k + 1, c, by omega, by omega, by go_num, rfl, Lib.hid (by show cntLt zs t k + _ = _; rw [HK.out, HZ.out, if_neg hzt]; rfl)⟩
              case measure => simp [intOf]; omega
          · obtain rfl : k = n := by omega
            by_cases hcn : c < k
            · obtain ⟨b, off, rfl, hbl, hcell⟩ := HC1.out (by omega)
              have hcx := hcell c hcn
              have HCC := Lib.hid hcell
              clear hcell
              obtain ⟨z, hz⟩ : ∃ z, zs.getD c 0 = z := ⟨_, rfl⟩
              rw [hz] at hcx
              have HZ := Lib.hid hz
              clear hz
              by_cases hzt : z = t
              · subst hzt
                go_wp2_with fail
                refine (zzbsearch_any zs k z _ hle _ ⟨_, cap1, rfl, HC1.out⟩).mono ?_
                rintro e w2 ⟨r, rfl, ha, hb2⟩
                have hr := (bs_count HN.out ha).1
                rw [HK.out] at hr
                obtain rfl : r = (c : Int) := hr hcn HZ.out
                have HB2 := Lib.hid (HB1.out.trans (hb2.mono HB1.out.size))
                clear hr ha hb2
                go_wp2
                go_ret
                exact ⟨rfl, HB2.out⟩
              · have hz' : (z == t) = false := by simpa using hzt
                have HT := Lib.hid hzt
                clear hzt
                go_wp2_with fail
                refine (zzbsearch_any zs k t _ hle _ ⟨_, cap1, rfl, HC1.out⟩).mono ?_
                rintro e w2 ⟨r, rfl, ha, hb2⟩
                have hr := (bs_count HN.out ha).2
                rw [HK.out] at hr
                obtain rfl : r = -(c : Int) - 1 := hr (fun _ => by rw [HZ.out]; exact HT.out)
                have HB2 := Lib.hid (HB1.out.trans (hb2.mono HB1.out.size))
                clear hr ha hb2
                go_wp2
                go_ret
                exact ⟨rfl, HB2.out⟩
            · go_wp2_with fail
              refine (zzbsearch_any zs k t _ hle _ ⟨_, cap1, rfl, HC1.out⟩).mono ?_
              rintro e w2 ⟨r, rfl, ha, hb2⟩
              have hr := (bs_count HN.out ha).2
              rw [HK.out] at hr
              obtain rfl : r = -(c : Int) - 1 := hr (fun h => absurd h hcn)
              have HB2 := Lib.hid (HB1.out.trans (hb2.mono HB1.out.size))
              clear hr ha hb2
              go_wp2
              go_ret
              exact ⟨rfl, HB2.out⟩
end Go.Proofs.YtclopknkophfkaaGreatDoor
