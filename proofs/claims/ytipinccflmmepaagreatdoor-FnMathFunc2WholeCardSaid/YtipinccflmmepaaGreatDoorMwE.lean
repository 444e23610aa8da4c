/- The callbacks that mathFunc, mathFunc2, mathFunc3 make, at arguments of every kind. -/
import Derived.Test.YtipinccflmmepaaGreatDoorMwD
import Derived.StillTailTactics
namespace Go.Proofs.YtipinccflmmepaaGreatDoor
open Go.RowKit Go.Deep

theorem below_drewN (B : Nat) (w : World) (d : Nat) : Below B w (w.drewN d) := ⟨rfl, rfl, rfl, Nat.le_refl _, fun _ _ => rfl⟩
structure MArg where
  kd : Nat
  x : Nat
  n : Int
  t : ByteArray
  hk : kd < 5
  hn : In64 n
def MArg.val (A : MArg) : Value := anyOf A.kd A.x A.n A.t
def MArg.num (A : MArg) : Nat := fOf A.kd A.x A.n
def MArg.res (A : MArg) (next : Nat → Res) : Res := resOf A.kd A.x A.n A.t next
def ToF (v : Value) (b : Nat) (ok : Bool) : Prop := ∀ W, PfW W → Calls Tryz.prog 33 #[v] W fun e w' => e = .returned (.tuple #[.float .f64 b, .bool ok]) ∧ Below W.heap.size W w'
theorem MArg.split (A : MArg) : (ToF A.val A.num true ∧ ∀ next, A.res next = next A.num) ∨ (∃ t, A.val = valOf t ∧ ToF (valOf t) 0 false ∧ ∀ next, A.res next = .bad t) := by
  by_cases c : A.kd < 3
  · refine .inl ⟨fun W hp => ?_, fun next => resOf_ok c _ _ _ _⟩
    have h := to_float A.kd A.x A.n A.t A.hk A.hn W hp
    rw [decide_eq_true c] at h
    exact h
  · refine .inr ⟨txtOf A.kd A.t, any_bad c A.hk _ _ _, fun W hp => ?_, fun next => resOf_bad c _ _ _ _⟩
    have h := to_float A.kd A.x A.n A.t A.hk A.hn W hp
    rw [decide_eq_false c, any_bad c A.hk, show fOf A.kd A.x A.n = 0 from (if_neg (by omega)).trans (if_neg c)] at h
    exact h
theorem ans1 {name : ByteArray} (A : MArg) {e : Ending} {w : World} (h : AnsF name A.val (decide (A.kd < 3)) (Go.Op.negFloat .f64 A.num) e w) : ∃ r, e = .returned r ∧ AnsR name (A.res fun b => .num (· = Go.Op.negFloat .f64 b)) r w := by
  by_cases c : A.kd < 3
  · rcases h with ⟨_, h⟩ | ⟨h, _⟩
    · exact ⟨_, h, by rw [show A.res (fun b => .num (· = Go.Op.negFloat .f64 b)) = _ from resOf_ok c _ _ _ _]; exact ⟨_, rfl, rfl⟩⟩
    · rw [decide_eq_true c] at h; cases h
  · rcases h with ⟨h, _⟩ | ⟨_, g, h, h1, h2, h3⟩
    · rw [decide_eq_false c] at h; cases h
    · exact ⟨_, h, by rw [show A.res (fun b => .num (· = Go.Op.negFloat .f64 b)) = _ from resOf_bad c _ _ _ _]; exact ⟨g, rfl, h1, h2, by rw [h3]; exact congrArg some (any_bad c A.hk _ _ _)⟩⟩
def Cb2 (name : ByteArray) (p : Nat) (w : World) : Prop :=
  p < w.heap.size ∧ ∃ q r : Nat, q < w.heap.size ∧ r < w.heap.size ∧ w.cell? ⟨p, 0, none⟩ = some (.func (.func 35) #[] #[.pointer (some ⟨q, 0, none⟩), .pointer (some ⟨r, 0, none⟩)]) ∧ w.cell? ⟨q, 0, none⟩ = some (.string name) ∧ w.cell? ⟨r, 0, none⟩ = some (.func (.func 16) #[] #[])
theorem Cb2.later {name : ByteArray} {p : Nat} {w w' : World} (h : Cb2 name p w) (hb : Below w.heap.size w w') : Cb2 name p w' := by
  obtain ⟨h1, q, r, h2, h3, h4, h5, h6⟩ := h
  exact ⟨Nat.lt_of_lt_of_le h1 hb.size, q, r, Nat.lt_of_lt_of_le h2 hb.size, Nat.lt_of_lt_of_le h3 hb.size, (hb.cell (p := ⟨p, 0, none⟩) h1).trans h4, (hb.cell (p := ⟨q, 0, none⟩) h2).trans h5, (hb.cell (p := ⟨r, 0, none⟩) h3).trans h6⟩
def cb2V (p : Nat) : Value := .agg #[.int .i64 4, .bool false, .func (.func 43) #[] #[.pointer (some ⟨p, 0, none⟩)]]
set_option maxRecDepth 100000 in
set_option maxHeartbeats 2000000 in
theorem mf2_any (name : ByteArray) (W : World) :
    Calls Tryz.prog 27 #[.string name, .func (.func 16) #[] #[]] W fun e w' => (∃ p, e = .returned (cb2V p) ∧ Cb2 name p w') ∧ Below W.heap.size W w' := by
  go_enter Tryz.func27, Tryz.ntmps27
  go_wp2
  refine bodyPost_ret (v := cb2V (W.heap.size + 1 + 1 + 1)) ?_ rfl ⟨⟨_, rfl, ?_⟩, ?_⟩
  · simp [results, Tryz.results27, go_sem, cb2V]
    try rfl
  · refine ⟨by simp, W.heap.size, W.heap.size + 1, by simp; omega, by simp, ?_, ?_, ?_⟩
    · rw [World.cell?_alloc_lt _ _ _ (by simp)]
      exact (cell_new _ _ _ _ (by simp)).trans rfl
    · rw [World.cell?_alloc_lt _ _ _ (by first | (simp; done) | (simp; omega)), World.cell?_alloc_lt _ _ _ (by first | (simp; done) | (simp; omega)), World.cell?_alloc_lt _ _ _ (by first | (simp; done) | (simp; omega)), World.cell?_alloc_lt _ _ _ (by first | (simp; done) | (simp; omega))]
      exact (cell_new _ _ _ _ rfl).trans rfl
    · rw [World.cell?_alloc_lt _ _ _ (by simp), World.cell?_alloc_lt _ _ _ (by simp), World.cell?_alloc_lt _ _ _ (by simp)]
      exact (cell_new _ _ _ _ (by simp)).trans rfl
  · go_grown
def res2 (A B : MArg) : Res := A.res fun p1 => B.res fun p2 => .num (Arith .sub p1 p2)
set_option maxRecDepth 100000 in
set_option maxHeartbeats 4000000 in
theorem f2_any (name : ByteArray) (q r : Nat) (v0 : Value) (A B : MArg) (W : World) (hp : PfW W) (h2 : q < W.heap.size) (h3 : r < W.heap.size) (h5 : W.cell? ⟨q, 0, none⟩ = some (.string name)) (h6 : W.cell? ⟨r, 0, none⟩ = some (.func (.func 16) #[] #[])) :
    Calls Tryz.prog 35 #[v0, A.val, B.val, .pointer (some ⟨q, 0, none⟩), .pointer (some ⟨r, 0, none⟩)] W fun e w' => (∃ R, e = .returned R ∧ AnsR name (res2 A B) R w') ∧ Below W.heap.size W w' := by
  have hp0 := hp
  have H5 : Hid (∀ w, Below W.heap.size W w → w.cell? ⟨q, 0, none⟩ = some (.string name)) := Lib.hid fun w hb => (hb.cell (p := ⟨q, 0, none⟩) h2).trans h5
  have H6 : Hid (∀ w, Below W.heap.size W w → w.cell? ⟨r, 0, none⟩ = some (.func (.func 16) #[] #[])) := Lib.hid fun w hb => (hb.cell (p := ⟨r, 0, none⟩) h3).trans h6
  clear hp
  unfold res2
  rcases A.split with ⟨htA, hrA⟩ | ⟨tA, hvA, htA, hrA⟩
  · have HTA : Hid (∀ W, PfW W → Calls Tryz.prog 33 #[A.val] W fun e w' => e = .returned (.tuple #[.float .f64 A.num, .bool true]) ∧ Below W.heap.size W w') := Lib.hid htA
    rw [hrA]
    obtain ⟨bA, hbA⟩ : ∃ b, A.num = b := ⟨_, rfl⟩
    rw [hbA] at HTA ⊢
    clear htA hrA hbA
    rcases B.split with ⟨htB, hrB⟩ | ⟨tB, hvB, htB, hrB⟩
    · have HTB : Hid (∀ W, PfW W → Calls Tryz.prog 33 #[B.val] W fun e w' => e = .returned (.tuple #[.float .f64 B.num, .bool true]) ∧ Below W.heap.size W w') := Lib.hid htB
      rw [hrB]
      obtain ⟨bB, hbB⟩ : ∃ b, B.num = b := ⟨_, rfl⟩
      rw [hbB] at HTB ⊢
      clear htB hrB hbB
      obtain ⟨vA, hvA⟩ : ∃ v, A.val = v := ⟨_, rfl⟩
      rw [hvA] at HTA ⊢
      clear hvA
      obtain ⟨vB, hvB⟩ : ∃ v, B.val = v := ⟨_, rfl⟩
      rw [hvB] at HTB ⊢
      clear hvB
      go_enter Tryz.func35, Tryz.ntmps35
      go_wp2_with (go_at_call 33; first | (with_reducible refine (HTA.out _ hp0).mono ?_; rintro e w1 ⟨rfl, hb1⟩; have HB1 := Lib.hid (hb1); have hp1 := hp0.later hb1; clear hb1; have k1a := H5.out _ HB1.out; have k1b := H6.out _ HB1.out) | (with_reducible refine (HTB.out _ hp1).mono ?_; rintro e w2 ⟨rfl, hb2⟩; have HB2 := Lib.hid (HB1.out.trans (hb2.mono HB1.out.size)); have hp2 := hp1.later hb2; clear hb2; have k2a := H5.out _ HB2.out; have k2b := H6.out _ HB2.out))
      refine (sub_any bA bB _).mono ?_
      rintro e wz ⟨⟨d, rfl, hd⟩, hbz⟩
      have HBz := Lib.hid (HB2.out.trans (hbz.mono HB2.out.size))
      clear hbz
      go_wp2
      go_ret
      exact ⟨⟨_, rfl, d, hd, rfl⟩, HBz.out⟩
    · have HTB : Hid (∀ W, PfW W → Calls Tryz.prog 33 #[valOf tB] W fun e w' => e = .returned (.tuple #[.float .f64 0, .bool false]) ∧ Below W.heap.size W w') := Lib.hid htB
      rw [hrB, hvB]
      clear htB hrB hvB
      obtain ⟨vA, hvA⟩ : ∃ v, A.val = v := ⟨_, rfl⟩
      rw [hvA] at HTA ⊢
      clear hvA
      rcases tB with _ | tB
      · rw [show valOf none = .nilIface from rfl] at HTB ⊢
        go_enter Tryz.func35, Tryz.ntmps35
        go_wp2_with (go_at_call 33; first | (with_reducible refine (HTA.out _ hp0).mono ?_; rintro e w1 ⟨rfl, hb1⟩; have HB1 := Lib.hid (hb1); have hp1 := hp0.later hb1; clear hb1; have k1a := H5.out _ HB1.out; have k1b := H6.out _ HB1.out) | (with_reducible refine (HTB.out _ hp1).mono ?_; rintro e w2 ⟨rfl, hb2⟩; have HB2 := Lib.hid (HB1.out.trans (hb2.mono HB1.out.size)); have hp2 := hp1.later hb2; clear hb2; have k2a := H5.out _ HB2.out; have k2b := H6.out _ HB2.out))
        go_ret
        exact ⟨⟨_, rfl, w2.heap.size, rfl, by simp, by rw [World.cell?_alloc_new]; rfl, by rw [World.cell?_alloc_new]; rfl⟩, HB2.out.alloc HB2.out.size _⟩
      · rw [show valOf (some tB) = .iface 9 (.string tB) from rfl] at HTB ⊢
        go_enter Tryz.func35, Tryz.ntmps35
        go_wp2_with (go_at_call 33; first | (with_reducible refine (HTA.out _ hp0).mono ?_; rintro e w1 ⟨rfl, hb1⟩; have HB1 := Lib.hid (hb1); have hp1 := hp0.later hb1; clear hb1; have k1a := H5.out _ HB1.out; have k1b := H6.out _ HB1.out) | (with_reducible refine (HTB.out _ hp1).mono ?_; rintro e w2 ⟨rfl, hb2⟩; have HB2 := Lib.hid (HB1.out.trans (hb2.mono HB1.out.size)); have hp2 := hp1.later hb2; clear hb2; have k2a := H5.out _ HB2.out; have k2b := H6.out _ HB2.out))
        go_ret
        exact ⟨⟨_, rfl, w2.heap.size, rfl, by simp, by rw [World.cell?_alloc_new]; rfl, by rw [World.cell?_alloc_new]; rfl⟩, HB2.out.alloc HB2.out.size _⟩
  · have HTA : Hid (∀ W, PfW W → Calls Tryz.prog 33 #[valOf tA] W fun e w' => e = .returned (.tuple #[.float .f64 0, .bool false]) ∧ Below W.heap.size W w') := Lib.hid htA
    rw [hrA, hvA]
    clear htA hrA hvA
    obtain ⟨vB, hvB⟩ : ∃ v, B.val = v := ⟨_, rfl⟩
    rw [hvB]
    clear hvB
    rcases tA with _ | tA
    · rw [show valOf none = .nilIface from rfl] at HTA ⊢
      go_enter Tryz.func35, Tryz.ntmps35
      go_wp2_with (go_at_call 33; first | (with_reducible refine (HTA.out _ hp0).mono ?_; rintro e w1 ⟨rfl, hb1⟩; have HB1 := Lib.hid (hb1); have hp1 := hp0.later hb1; clear hb1; have k1a := H5.out _ HB1.out; have k1b := H6.out _ HB1.out))
      go_ret
      exact ⟨⟨_, rfl, w1.heap.size, rfl, by simp, by rw [World.cell?_alloc_new]; rfl, by rw [World.cell?_alloc_new]; rfl⟩, HB1.out.alloc HB1.out.size _⟩
    · rw [show valOf (some tA) = .iface 9 (.string tA) from rfl] at HTA ⊢
      go_enter Tryz.func35, Tryz.ntmps35
      go_wp2_with (go_at_call 33; first | (with_reducible refine (HTA.out _ hp0).mono ?_; rintro e w1 ⟨rfl, hb1⟩; have HB1 := Lib.hid (hb1); have hp1 := hp0.later hb1; clear hb1; have k1a := H5.out _ HB1.out; have k1b := H6.out _ HB1.out))
      go_ret
      exact ⟨⟨_, rfl, w1.heap.size, rfl, by simp, by rw [World.cell?_alloc_new]; rfl, by rw [World.cell?_alloc_new]; rfl⟩, HB1.out.alloc HB1.out.size _⟩
set_option maxRecDepth 100000 in
set_option maxHeartbeats 4000000 in
theorem cb2_any (name : ByteArray) (p bk : Nat) (v0 : Value) (A B : MArg) (W : World) (hp : PfW W) (hc : Cb2 name p W) (g0 : W.cell? ⟨bk, 0, none⟩ = some A.val) (g1 : W.cell? ⟨bk, 1, none⟩ = some B.val) :
    Calls Tryz.prog 43 #[v0, .slice (some ⟨bk, 0, none⟩) 2 2, .pointer (some ⟨p, 0, none⟩)] W fun e w' => (∃ R, e = .returned R ∧ AnsR name (res2 A B) R w') ∧ Below W.heap.size W w' := by
  obtain ⟨h1, q, r, h2, h3, h4, h5, h6⟩ := hc
  have HF : Hid (∀ w, Below W.heap.size W w → Calls Tryz.prog 35 #[v0, A.val, B.val, .pointer (some ⟨q, 0, none⟩), .pointer (some ⟨r, 0, none⟩)] w fun e w' => (∃ R, e = .returned R ∧ AnsR name (res2 A B) R w') ∧ Below W.heap.size W w') := Lib.hid fun w hb =>
    (f2_any name q r v0 A B w (hp.later hb) (Nat.lt_of_lt_of_le h2 hb.size) (Nat.lt_of_lt_of_le h3 hb.size) ((hb.cell (p := ⟨q, 0, none⟩) h2).trans h5) ((hb.cell (p := ⟨r, 0, none⟩) h3).trans h6)).mono fun e w' h => ⟨h.1, hb.trans (h.2.mono hb.size)⟩
  obtain ⟨vA, hvA⟩ : ∃ v, A.val = v := ⟨_, rfl⟩
  obtain ⟨vB, hvB⟩ : ∃ v, B.val = v := ⟨_, rfl⟩
  rw [hvA, hvB] at HF
  rw [hvA] at g0
  rw [hvB] at g1
  clear hvA hvB hp h2 h3 h5 h6
  obtain ⟨rs, hrs⟩ : ∃ rs, res2 A B = rs := ⟨_, rfl⟩
  rw [hrs] at HF ⊢
  clear hrs
  go_enter Tryz.func43, Tryz.ntmps43
  go_wp2_with fail
  go_still_tail 8, (by kernel_rfl)
  go_wp2_with fail
  with_reducible refine (HF.out _ ?_).mono ?_
  · first | exact Below.refl _ _ | exact (Below.refl _ _).drew | exact below_drewN _ _ _
  rintro e w' ⟨⟨R, rfl, ha⟩, hb1⟩
  have HA := Lib.hid ha
  have HB := Lib.hid hb1
  clear ha hb1
  go_wp2
  go_ret
  exact ⟨⟨R, rfl, HA.out⟩, HB.out⟩
def Cb3 (name : ByteArray) (p : Nat) (w : World) : Prop :=
  p < w.heap.size ∧ ∃ q r : Nat, q < w.heap.size ∧ r < w.heap.size ∧ w.cell? ⟨p, 0, none⟩ = some (.func (.func 37) #[] #[.pointer (some ⟨q, 0, none⟩), .pointer (some ⟨r, 0, none⟩)]) ∧ w.cell? ⟨q, 0, none⟩ = some (.string name) ∧ w.cell? ⟨r, 0, none⟩ = some (.func (.func 19) #[] #[])
theorem Cb3.later {name : ByteArray} {p : Nat} {w w' : World} (h : Cb3 name p w) (hb : Below w.heap.size w w') : Cb3 name p w' := by
  obtain ⟨h1, q, r, h2, h3, h4, h5, h6⟩ := h
  exact ⟨Nat.lt_of_lt_of_le h1 hb.size, q, r, Nat.lt_of_lt_of_le h2 hb.size, Nat.lt_of_lt_of_le h3 hb.size, (hb.cell (p := ⟨p, 0, none⟩) h1).trans h4, (hb.cell (p := ⟨q, 0, none⟩) h2).trans h5, (hb.cell (p := ⟨r, 0, none⟩) h3).trans h6⟩
def cb3V (p : Nat) : Value := .agg #[.int .i64 8, .bool false, .func (.func 44) #[] #[.pointer (some ⟨p, 0, none⟩)]]
set_option maxRecDepth 100000 in
set_option maxHeartbeats 2000000 in
theorem mf3_any (name : ByteArray) (W : World) :
    Calls Tryz.prog 28 #[.string name, .func (.func 19) #[] #[]] W fun e w' => (∃ p, e = .returned (cb3V p) ∧ Cb3 name p w') ∧ Below W.heap.size W w' := by
  go_enter Tryz.func28, Tryz.ntmps28
  go_wp2
  refine bodyPost_ret (v := cb3V (W.heap.size + 1 + 1 + 1)) ?_ rfl ⟨⟨_, rfl, ?_⟩, ?_⟩
  · simp [results, Tryz.results28, go_sem, cb3V]
    try rfl
  · refine ⟨by simp, W.heap.size, W.heap.size + 1, by simp; omega, by simp, ?_, ?_, ?_⟩
    · rw [World.cell?_alloc_lt _ _ _ (by simp)]
      exact (cell_new _ _ _ _ (by simp)).trans rfl
    · rw [World.cell?_alloc_lt _ _ _ (by first | (simp; done) | (simp; omega)), World.cell?_alloc_lt _ _ _ (by first | (simp; done) | (simp; omega)), World.cell?_alloc_lt _ _ _ (by first | (simp; done) | (simp; omega)), World.cell?_alloc_lt _ _ _ (by first | (simp; done) | (simp; omega))]
      exact (cell_new _ _ _ _ rfl).trans rfl
    · rw [World.cell?_alloc_lt _ _ _ (by simp), World.cell?_alloc_lt _ _ _ (by simp), World.cell?_alloc_lt _ _ _ (by simp)]
      exact (cell_new _ _ _ _ (by simp)).trans rfl
  · go_grown
def res3 (A B C : MArg) : Res := A.res fun p1 => B.res fun p2 => C.res fun p3 => .num (fun q => ∃ d, Arith .sub p1 p2 d ∧ Arith .quo d p3 q)
set_option maxRecDepth 100000 in
set_option maxHeartbeats 4000000 in
theorem f3_any (name : ByteArray) (q r : Nat) (v0 : Value) (A B C : MArg) (W : World) (hp : PfW W) (h2 : q < W.heap.size) (h3 : r < W.heap.size) (h5 : W.cell? ⟨q, 0, none⟩ = some (.string name)) (h6 : W.cell? ⟨r, 0, none⟩ = some (.func (.func 19) #[] #[])) :
    Calls Tryz.prog 37 #[v0, A.val, B.val, C.val, .pointer (some ⟨q, 0, none⟩), .pointer (some ⟨r, 0, none⟩)] W fun e w' => (∃ R, e = .returned R ∧ AnsR name (res3 A B C) R w') ∧ Below W.heap.size W w' := by
  have hp0 := hp
  have H5 : Hid (∀ w, Below W.heap.size W w → w.cell? ⟨q, 0, none⟩ = some (.string name)) := Lib.hid fun w hb => (hb.cell (p := ⟨q, 0, none⟩) h2).trans h5
  have H6 : Hid (∀ w, Below W.heap.size W w → w.cell? ⟨r, 0, none⟩ = some (.func (.func 19) #[] #[])) := Lib.hid fun w hb => (hb.cell (p := ⟨r, 0, none⟩) h3).trans h6
  clear hp
  unfold res3
  rcases A.split with ⟨htA, hrA⟩ | ⟨tA, hvA, htA, hrA⟩
  · have HTA : Hid (∀ W, PfW W → Calls Tryz.prog 33 #[A.val] W fun e w' => e = .returned (.tuple #[.float .f64 A.num, .bool true]) ∧ Below W.heap.size W w') := Lib.hid htA
    rw [hrA]
    obtain ⟨bA, hbA⟩ : ∃ b, A.num = b := ⟨_, rfl⟩
    rw [hbA] at HTA ⊢
    clear htA hrA hbA
    rcases B.split with ⟨htB, hrB⟩ | ⟨tB, hvB, htB, hrB⟩
    · have HTB : Hid (∀ W, PfW W → Calls Tryz.prog 33 #[B.val] W fun e w' => e = .returned (.tuple #[.float .f64 B.num, .bool true]) ∧ Below W.heap.size W w') := Lib.hid htB
      rw [hrB]
      obtain ⟨bB, hbB⟩ : ∃ b, B.num = b := ⟨_, rfl⟩
      rw [hbB] at HTB ⊢
      clear htB hrB hbB
      rcases C.split with ⟨htC, hrC⟩ | ⟨tC, hvC, htC, hrC⟩
      · have HTC : Hid (∀ W, PfW W → Calls Tryz.prog 33 #[C.val] W fun e w' => e = .returned (.tuple #[.float .f64 C.num, .bool true]) ∧ Below W.heap.size W w') := Lib.hid htC
        rw [hrC]
        obtain ⟨bC, hbC⟩ : ∃ b, C.num = b := ⟨_, rfl⟩
        rw [hbC] at HTC ⊢
        clear htC hrC hbC
        obtain ⟨vA, hvA⟩ : ∃ v, A.val = v := ⟨_, rfl⟩
        rw [hvA] at HTA ⊢
        clear hvA
        obtain ⟨vB, hvB⟩ : ∃ v, B.val = v := ⟨_, rfl⟩
        rw [hvB] at HTB ⊢
        clear hvB
        obtain ⟨vC, hvC⟩ : ∃ v, C.val = v := ⟨_, rfl⟩
        rw [hvC] at HTC ⊢
        clear hvC
        go_enter Tryz.func37, Tryz.ntmps37
        go_wp2_with (go_at_call 33; first | (with_reducible refine (HTA.out _ hp0).mono ?_; rintro e w1 ⟨rfl, hb1⟩; have HB1 := Lib.hid (hb1); have hp1 := hp0.later hb1; clear hb1; have k1a := H5.out _ HB1.out; have k1b := H6.out _ HB1.out) | (with_reducible refine (HTB.out _ hp1).mono ?_; rintro e w2 ⟨rfl, hb2⟩; have HB2 := Lib.hid (HB1.out.trans (hb2.mono HB1.out.size)); have hp2 := hp1.later hb2; clear hb2; have k2a := H5.out _ HB2.out; have k2b := H6.out _ HB2.out) | (with_reducible refine (HTC.out _ hp2).mono ?_; rintro e w3 ⟨rfl, hb3⟩; have HB3 := Lib.hid (HB2.out.trans (hb3.mono HB2.out.size)); have hp3 := hp2.later hb3; clear hb3; have k3a := H5.out _ HB3.out; have k3b := H6.out _ HB3.out))
        refine (dd_any bA bB bC _).mono ?_
        rintro e wz ⟨⟨d, rfl, hd⟩, hbz⟩
        have HBz := Lib.hid (HB3.out.trans (hbz.mono HB3.out.size))
        clear hbz
        go_wp2
        go_ret
        exact ⟨⟨_, rfl, d, hd, rfl⟩, HBz.out⟩
      · have HTC : Hid (∀ W, PfW W → Calls Tryz.prog 33 #[valOf tC] W fun e w' => e = .returned (.tuple #[.float .f64 0, .bool false]) ∧ Below W.heap.size W w') := Lib.hid htC
        rw [hrC, hvC]
        clear htC hrC hvC
        obtain ⟨vA, hvA⟩ : ∃ v, A.val = v := ⟨_, rfl⟩
        rw [hvA] at HTA ⊢
        clear hvA
        obtain ⟨vB, hvB⟩ : ∃ v, B.val = v := ⟨_, rfl⟩
        rw [hvB] at HTB ⊢
        clear hvB
        rcases tC with _ | tC
        · rw [show valOf none = .nilIface from rfl] at HTC ⊢
          go_enter Tryz.func37, Tryz.ntmps37
          go_wp2_with (go_at_call 33; first | (with_reducible refine (HTA.out _ hp0).mono ?_; rintro e w1 ⟨rfl, hb1⟩; have HB1 := Lib.hid (hb1); have hp1 := hp0.later hb1; clear hb1; have k1a := H5.out _ HB1.out; have k1b := H6.out _ HB1.out) | (with_reducible refine (HTB.out _ hp1).mono ?_; rintro e w2 ⟨rfl, hb2⟩; have HB2 := Lib.hid (HB1.out.trans (hb2.mono HB1.out.size)); have hp2 := hp1.later hb2; clear hb2; have k2a := H5.out _ HB2.out; have k2b := H6.out _ HB2.out) | (with_reducible refine (HTC.out _ hp2).mono ?_; rintro e w3 ⟨rfl, hb3⟩; have HB3 := Lib.hid (HB2.out.trans (hb3.mono HB2.out.size)); have hp3 := hp2.later hb3; clear hb3; have k3a := H5.out _ HB3.out; have k3b := H6.out _ HB3.out))
          go_ret
          exact ⟨⟨_, rfl, w3.heap.size, rfl, by simp, by rw [World.cell?_alloc_new]; rfl, by rw [World.cell?_alloc_new]; rfl⟩, HB3.out.alloc HB3.out.size _⟩
        · rw [show valOf (some tC) = .iface 9 (.string tC) from rfl] at HTC ⊢
          go_enter Tryz.func37, Tryz.ntmps37
          go_wp2_with (go_at_call 33; first | (with_reducible refine (HTA.out _ hp0).mono ?_; rintro e w1 ⟨rfl, hb1⟩; have HB1 := Lib.hid (hb1); have hp1 := hp0.later hb1; clear hb1; have k1a := H5.out _ HB1.out; have k1b := H6.out _ HB1.out) | (with_reducible refine (HTB.out _ hp1).mono ?_; rintro e w2 ⟨rfl, hb2⟩; have HB2 := Lib.hid (HB1.out.trans (hb2.mono HB1.out.size)); have hp2 := hp1.later hb2; clear hb2; have k2a := H5.out _ HB2.out; have k2b := H6.out _ HB2.out) | (with_reducible refine (HTC.out _ hp2).mono ?_; rintro e w3 ⟨rfl, hb3⟩; have HB3 := Lib.hid (HB2.out.trans (hb3.mono HB2.out.size)); have hp3 := hp2.later hb3; clear hb3; have k3a := H5.out _ HB3.out; have k3b := H6.out _ HB3.out))
          go_ret
          exact ⟨⟨_, rfl, w3.heap.size, rfl, by simp, by rw [World.cell?_alloc_new]; rfl, by rw [World.cell?_alloc_new]; rfl⟩, HB3.out.alloc HB3.out.size _⟩
    · have HTB : Hid (∀ W, PfW W → Calls Tryz.prog 33 #[valOf tB] W fun e w' => e = .returned (.tuple #[.float .f64 0, .bool false]) ∧ Below W.heap.size W w') := Lib.hid htB
      rw [hrB, hvB]
      clear htB hrB hvB
      obtain ⟨vA, hvA⟩ : ∃ v, A.val = v := ⟨_, rfl⟩
      rw [hvA] at HTA ⊢
      clear hvA
      obtain ⟨vC, hvC⟩ : ∃ v, C.val = v := ⟨_, rfl⟩
      rw [hvC]
      clear hvC
      rcases tB with _ | tB
      · rw [show valOf none = .nilIface from rfl] at HTB ⊢
        go_enter Tryz.func37, Tryz.ntmps37
        go_wp2_with (go_at_call 33; first | (with_reducible refine (HTA.out _ hp0).mono ?_; rintro e w1 ⟨rfl, hb1⟩; have HB1 := Lib.hid (hb1); have hp1 := hp0.later hb1; clear hb1; have k1a := H5.out _ HB1.out; have k1b := H6.out _ HB1.out) | (with_reducible refine (HTB.out _ hp1).mono ?_; rintro e w2 ⟨rfl, hb2⟩; have HB2 := Lib.hid (HB1.out.trans (hb2.mono HB1.out.size)); have hp2 := hp1.later hb2; clear hb2; have k2a := H5.out _ HB2.out; have k2b := H6.out _ HB2.out))
        go_ret
        exact ⟨⟨_, rfl, w2.heap.size, rfl, by simp, by rw [World.cell?_alloc_new]; rfl, by rw [World.cell?_alloc_new]; rfl⟩, HB2.out.alloc HB2.out.size _⟩
      · rw [show valOf (some tB) = .iface 9 (.string tB) from rfl] at HTB ⊢
        go_enter Tryz.func37, Tryz.ntmps37
        go_wp2_with (go_at_call 33; first | (with_reducible refine (HTA.out _ hp0).mono ?_; rintro e w1 ⟨rfl, hb1⟩; have HB1 := Lib.hid (hb1); have hp1 := hp0.later hb1; clear hb1; have k1a := H5.out _ HB1.out; have k1b := H6.out _ HB1.out) | (with_reducible refine (HTB.out _ hp1).mono ?_; rintro e w2 ⟨rfl, hb2⟩; have HB2 := Lib.hid (HB1.out.trans (hb2.mono HB1.out.size)); have hp2 := hp1.later hb2; clear hb2; have k2a := H5.out _ HB2.out; have k2b := H6.out _ HB2.out))
        go_ret
        exact ⟨⟨_, rfl, w2.heap.size, rfl, by simp, by rw [World.cell?_alloc_new]; rfl, by rw [World.cell?_alloc_new]; rfl⟩, HB2.out.alloc HB2.out.size _⟩
  · have HTA : Hid (∀ W, PfW W → Calls Tryz.prog 33 #[valOf tA] W fun e w' => e = .returned (.tuple #[.float .f64 0, .bool false]) ∧ Below W.heap.size W w') := Lib.hid htA
    rw [hrA, hvA]
    clear htA hrA hvA
    obtain ⟨vB, hvB⟩ : ∃ v, B.val = v := ⟨_, rfl⟩
    rw [hvB]
    clear hvB
    obtain ⟨vC, hvC⟩ : ∃ v, C.val = v := ⟨_, rfl⟩
    rw [hvC]
    clear hvC
    rcases tA with _ | tA
    · rw [show valOf none = .nilIface from rfl] at HTA ⊢
      go_enter Tryz.func37, Tryz.ntmps37
      go_wp2_with (go_at_call 33; first | (with_reducible refine (HTA.out _ hp0).mono ?_; rintro e w1 ⟨rfl, hb1⟩; have HB1 := Lib.hid (hb1); have hp1 := hp0.later hb1; clear hb1; have k1a := H5.out _ HB1.out; have k1b := H6.out _ HB1.out))
      go_ret
      exact ⟨⟨_, rfl, w1.heap.size, rfl, by simp, by rw [World.cell?_alloc_new]; rfl, by rw [World.cell?_alloc_new]; rfl⟩, HB1.out.alloc HB1.out.size _⟩
    · rw [show valOf (some tA) = .iface 9 (.string tA) from rfl] at HTA ⊢
      go_enter Tryz.func37, Tryz.ntmps37
      go_wp2_with (go_at_call 33; first | (with_reducible refine (HTA.out _ hp0).mono ?_; rintro e w1 ⟨rfl, hb1⟩; have HB1 := Lib.hid (hb1); have hp1 := hp0.later hb1; clear hb1; have k1a := H5.out _ HB1.out; have k1b := H6.out _ HB1.out))
      go_ret
      exact ⟨⟨_, rfl, w1.heap.size, rfl, by simp, by rw [World.cell?_alloc_new]; rfl, by rw [World.cell?_alloc_new]; rfl⟩, HB1.out.alloc HB1.out.size _⟩
set_option maxRecDepth 100000 in
set_option maxHeartbeats 4000000 in
theorem cb3_any (name : ByteArray) (p bk : Nat) (v0 : Value) (A B C : MArg) (W : World) (hp : PfW W) (hc : Cb3 name p W) (g0 : W.cell? ⟨bk, 0, none⟩ = some A.val) (g1 : W.cell? ⟨bk, 1, none⟩ = some B.val) (g2 : W.cell? ⟨bk, 2, none⟩ = some C.val) :
    Calls Tryz.prog 44 #[v0, .slice (some ⟨bk, 0, none⟩) 3 3, .pointer (some ⟨p, 0, none⟩)] W fun e w' => (∃ R, e = .returned R ∧ AnsR name (res3 A B C) R w') ∧ Below W.heap.size W w' := by
  obtain ⟨h1, q, r, h2, h3, h4, h5, h6⟩ := hc
  have HF : Hid (∀ w, Below W.heap.size W w → Calls Tryz.prog 37 #[v0, A.val, B.val, C.val, .pointer (some ⟨q, 0, none⟩), .pointer (some ⟨r, 0, none⟩)] w fun e w' => (∃ R, e = .returned R ∧ AnsR name (res3 A B C) R w') ∧ Below W.heap.size W w') := Lib.hid fun w hb =>
    (f3_any name q r v0 A B C w (hp.later hb) (Nat.lt_of_lt_of_le h2 hb.size) (Nat.lt_of_lt_of_le h3 hb.size) ((hb.cell (p := ⟨q, 0, none⟩) h2).trans h5) ((hb.cell (p := ⟨r, 0, none⟩) h3).trans h6)).mono fun e w' h => ⟨h.1, hb.trans (h.2.mono hb.size)⟩
  obtain ⟨vA, hvA⟩ : ∃ v, A.val = v := ⟨_, rfl⟩
  obtain ⟨vB, hvB⟩ : ∃ v, B.val = v := ⟨_, rfl⟩
  obtain ⟨vC, hvC⟩ : ∃ v, C.val = v := ⟨_, rfl⟩
  rw [hvA, hvB, hvC] at HF
  rw [hvA] at g0
  rw [hvB] at g1
  rw [hvC] at g2
  clear hvA hvB hvC hp h2 h3 h5 h6
  obtain ⟨rs, hrs⟩ : ∃ rs, res3 A B C = rs := ⟨_, rfl⟩
  rw [hrs] at HF ⊢
  clear hrs
  go_enter Tryz.func44, Tryz.ntmps44
  go_wp2_with fail
  go_still_tail 11, (by kernel_rfl)
  go_wp2_with fail
  with_reducible refine (HF.out _ ?_).mono ?_
  · first | exact Below.refl _ _ | exact (Below.refl _ _).drew | exact below_drewN _ _ _
  rintro e w' ⟨⟨R, rfl, ha⟩, hb1⟩
  have HA := Lib.hid ha
  have HB := Lib.hid hb1
  clear ha hb1
  go_wp2
  go_ret
  exact ⟨⟨R, rfl, HA.out⟩, HB.out⟩
end Go.Proofs.YtipinccflmmepaaGreatDoor
