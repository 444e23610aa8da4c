/- mathFunc at one argument, and what comes out. -/
import Derived.Test.YtipinccflmmepaaGreatDoorMwA
namespace Go.Proofs.YtipinccflmmepaaGreatDoor
open Go.RowKit Go.Deep

set_option maxRecDepth 100000 in
set_option maxHeartbeats 2000000 in
theorem out_float (b : Nat) (W : World) : Calls Tryz.prog 22 #[.iface 22 (.float .f64 b)] W fun e w' => e = .returned (.agg #[.bool true, .float .f64 b, .bool false, .string ByteArray.empty, .int .i64 2, .string ByteArray.empty]) ∧ Below W.heap.size W w' := by
  go_enter Tryz.func22, Tryz.ntmps22
  go_wp2
  refine bodyPost_ret (v := .agg #[.bool true, .float .f64 b, .bool false, .string ByteArray.empty, .int .i64 2, .string ByteArray.empty]) ?_ rfl ⟨rfl, ?_⟩
  · simp [results, Tryz.results22, go_sem]
    try rfl
  · go_grown
theorem cell_new (w : World) (c : Array Value) (t : TypeId) (n : Nat) (h : n = w.heap.size) : (w.alloc (.cells c t)).cell? ⟨n, 0, none⟩ = c[0]? := by
  subst h
  exact World.cell?_alloc_new _ _ _ _
def Cb1 (name : ByteArray) (p : Nat) (w : World) : Prop :=
  p < w.heap.size ∧ ∃ q r : Nat, q < w.heap.size ∧ r < w.heap.size ∧ w.cell? ⟨p, 0, none⟩ = some (.func (.func 32) #[] #[.pointer (some ⟨q, 0, none⟩), .pointer (some ⟨r, 0, none⟩)]) ∧ w.cell? ⟨q, 0, none⟩ = some (.string name) ∧ w.cell? ⟨r, 0, none⟩ = some (.func (.func 9) #[] #[])
theorem Cb1.later {name : ByteArray} {p : Nat} {w w' : World} (h : Cb1 name p w) (hb : Below w.heap.size w w') : Cb1 name p w' := by
  obtain ⟨h1, q, r, h2, h3, h4, h5, h6⟩ := h
  exact ⟨Nat.lt_of_lt_of_le h1 hb.size, q, r, Nat.lt_of_lt_of_le h2 hb.size, Nat.lt_of_lt_of_le h3 hb.size, (hb.cell (p := ⟨p, 0, none⟩) h1).trans h4, (hb.cell (p := ⟨q, 0, none⟩) h2).trans h5, (hb.cell (p := ⟨r, 0, none⟩) h3).trans h6⟩
def cbV (p : Nat) : Value := .agg #[.int .i64 1, .bool false, .func (.func 40) #[] #[.pointer (some ⟨p, 0, none⟩)]]
set_option maxRecDepth 100000 in
set_option maxHeartbeats 2000000 in
theorem mf_any (name : ByteArray) (W : World) :
    Calls Tryz.prog 23 #[.string name, .func (.func 9) #[] #[]] W fun e w' => (∃ p, e = .returned (cbV p) ∧ Cb1 name p w') ∧ Below W.heap.size W w' := by
  go_enter Tryz.func23, Tryz.ntmps23
  go_wp2
  refine bodyPost_ret (v := cbV (W.heap.size + 1 + 1 + 1)) ?_ rfl ⟨⟨_, rfl, ?_⟩, ?_⟩
  · simp [results, Tryz.results23, go_sem, cbV]
    try rfl
  · refine ⟨by simp, W.heap.size, W.heap.size + 1, by simp; omega, by simp, ?_, ?_, ?_⟩
    · rw [World.cell?_alloc_lt _ _ _ (by simp)]
      exact (cell_new _ _ _ _ (by simp)).trans rfl
    · rw [World.cell?_alloc_lt _ _ _ (by first | (simp; done) | (simp; omega)), World.cell?_alloc_lt _ _ _ (by first | (simp; done) | (simp; omega)), World.cell?_alloc_lt _ _ _ (by first | (simp; done) | (simp; omega)), World.cell?_alloc_lt _ _ _ (by first | (simp; done) | (simp; omega))]
      exact (cell_new _ _ _ _ rfl).trans rfl
    · rw [World.cell?_alloc_lt _ _ _ (by simp), World.cell?_alloc_lt _ _ _ (by simp), World.cell?_alloc_lt _ _ _ (by simp)]
      exact (cell_new _ _ _ _ (by simp)).trans rfl
  · go_grown
/-- What the callback answers. -/
def AnsF (name : ByteArray) (v : Value) (ok : Bool) (b : Nat) (e : Ending) (w' : World) : Prop :=
  (ok = true ∧ e = .returned (.iface 22 (.float .f64 b))) ∨ (ok = false ∧ ∃ g, e = .returned (.iface 62 (.pointer (some ⟨g, 0, none⟩))) ∧ g < w'.heap.size ∧ w'.cell? ⟨g, 0, none⟩ = some (.string name) ∧ w'.cell? ⟨g, 1, none⟩ = some v)
theorem neg_any (b : Nat) (w : World) : Calls Tryz.prog 9 #[.float .f64 b] w fun e w' => e = .returned (.float .f64 (Go.Op.negFloat .f64 b)) ∧ w = w' := by
  go_enter Tryz.func9, Tryz.ntmps9
  go_wp2
  go_ret
  exact ⟨rfl, rfl⟩
set_option maxRecDepth 100000 in
set_option maxHeartbeats 2000000 in
theorem f1_any (name : ByteArray) (q r : Nat) (kd x : Nat) (n : Int) (t : ByteArray) (hkd : kd < 5) (hn : In64 n) (W : World) (hp : PfW W) (h2 : q < W.heap.size) (h3 : r < W.heap.size) (h5 : W.cell? ⟨q, 0, none⟩ = some (.string name)) (h6 : W.cell? ⟨r, 0, none⟩ = some (.func (.func 9) #[] #[])) :
    Calls Tryz.prog 32 #[anyOf kd x n t, .pointer (some ⟨q, 0, none⟩), .pointer (some ⟨r, 0, none⟩)] W fun e w' => AnsF name (anyOf kd x n t) (decide (kd < 3)) (Go.Op.negFloat .f64 (fOf kd x n)) e w' ∧ Below W.heap.size W w' := by
  have HT := Lib.hid (to_float kd x n t hkd hn W hp)
  obtain ⟨b, hb⟩ : ∃ b, fOf kd x n = b := ⟨_, rfl⟩
  rw [hb] at HT ⊢
  clear hb hp
  by_cases c : kd < 3
  · obtain ⟨v, hv⟩ : ∃ v, anyOf kd x n t = v := ⟨_, rfl⟩
    rw [hv, decide_eq_true c] at HT
    rw [hv, decide_eq_true c]
    clear hv
    go_enter Tryz.func32, Tryz.ntmps32
    go_wp2_with (go_at_call 33; refine HT.out.mono ?_; rintro e w' ⟨rfl, hb1⟩; have k5 := (hb1.cell (p := ⟨q, 0, none⟩) h2).trans h5; have k6 := (hb1.cell (p := ⟨r, 0, none⟩) h3).trans h6; have HB1 := Lib.hid hb1; clear hb1)
    refine (neg_any b _).mono ?_
    rintro e w2 ⟨rfl, rfl⟩
    go_wp2
    go_ret
    exact ⟨.inl ⟨rfl, rfl⟩, HB1.out⟩
  · rw [decide_eq_false c] at HT ⊢
    rcases (show kd = 3 ∨ kd = 4 by omega) with rfl | rfl
    · rw [show anyOf 3 x n t = .iface 9 (.string t) from rfl] at HT ⊢
      go_enter Tryz.func32, Tryz.ntmps32
      go_wp2_with (go_at_call 33; refine HT.out.mono ?_; rintro e w' ⟨rfl, hb1⟩; have k5 := (hb1.cell (p := ⟨q, 0, none⟩) h2).trans h5; have k6 := (hb1.cell (p := ⟨r, 0, none⟩) h3).trans h6; have HB1 := Lib.hid hb1; clear hb1)
      go_ret
      exact ⟨.inr ⟨rfl, w'.heap.size, rfl, by simp, by rw [World.cell?_alloc_new]; rfl, by rw [World.cell?_alloc_new]; rfl⟩, HB1.out.alloc HB1.out.size _⟩
    · rw [show anyOf 4 x n t = .nilIface from rfl] at HT ⊢
      go_enter Tryz.func32, Tryz.ntmps32
      go_wp2_with (go_at_call 33; refine HT.out.mono ?_; rintro e w' ⟨rfl, hb1⟩; have k5 := (hb1.cell (p := ⟨q, 0, none⟩) h2).trans h5; have k6 := (hb1.cell (p := ⟨r, 0, none⟩) h3).trans h6; have HB1 := Lib.hid hb1; clear hb1)
      go_ret
      exact ⟨.inr ⟨rfl, w'.heap.size, rfl, by simp, by rw [World.cell?_alloc_new]; rfl, by rw [World.cell?_alloc_new]; rfl⟩, HB1.out.alloc HB1.out.size _⟩
set_option maxRecDepth 100000 in
set_option maxHeartbeats 2000000 in
theorem cb1_any (name : ByteArray) (p : Nat) (kd x : Nat) (n : Int) (t : ByteArray) (hkd : kd < 5) (hn : In64 n) (W : World) (hp : PfW W) (hc : Cb1 name p W) :
    Calls Tryz.prog 40 #[anyOf kd x n t, .slice none 0 0, .pointer (some ⟨p, 0, none⟩)] W fun e w' => AnsF name (anyOf kd x n t) (decide (kd < 3)) (Go.Op.negFloat .f64 (fOf kd x n)) e w' ∧ Below W.heap.size W w' := by
  obtain ⟨h1, q, r, h2, h3, h4, h5, h6⟩ := hc
  have HF := Lib.hid (f1_any name q r kd x n t hkd hn W hp h2 h3 h5 h6)
  obtain ⟨v, hv⟩ : ∃ v, anyOf kd x n t = v := ⟨_, rfl⟩
  obtain ⟨b, hb⟩ : ∃ b, Go.Op.negFloat .f64 (fOf kd x n) = b := ⟨_, rfl⟩
  obtain ⟨ok, hok⟩ : ∃ ok, decide (kd < 3) = ok := ⟨_, rfl⟩
  rw [hv, hb, hok] at HF
  rw [hv, hb, hok]
  clear hv hb hok hp h2 h3 h5 h6
  go_enter Tryz.func40, Tryz.ntmps40
  go_wp2_with fail
  refine HF.out.mono ?_
  rintro e w' ⟨ha, hb1⟩
  have HA := Lib.hid ha
  have HB := Lib.hid hb1
  rcases ha with ⟨_, rfl⟩ | ⟨_, g, rfl, _⟩
  · go_wp2
    go_ret
    exact ⟨HA.out, HB.out⟩
  · go_wp2
    go_ret
    exact ⟨HA.out, HB.out⟩
theorem as_te_f (v : Value) (w : World) : (Instr.typeAssert (.iface 62 v) 20 22 true).run Tryz.prog w = .ok (.tuple #[.float .f64 0, .bool false]) w := by kernel_rfl
theorem as_te_te (v : Value) (w : World) : (Instr.typeAssert (.iface 62 v) 20 62 true).run Tryz.prog w = .ok (.tuple #[v, .bool true]) w := by kernel_rfl
set_option maxRecDepth 100000 in
set_option maxHeartbeats 2000000 in
theorem out_str (g : Nat) (name t : ByteArray) (W : World) (hg : g < W.heap.size) (h0 : W.cell? ⟨g, 0, none⟩ = some (.string name)) (h1 : W.cell? ⟨g, 1, none⟩ = some (.iface 9 (.string t))) :
    Calls Tryz.prog 22 #[.iface 62 (.pointer (some ⟨g, 0, none⟩))] W fun e w' => e = .returned (.agg #[.bool false, .float .f64 0, .bool true, .string name, .int .i64 1, .string t]) ∧ Below W.heap.size W w' := by
  have a1 := as_te_f
  have a2 := as_te_te
  go_enter Tryz.func22, Tryz.ntmps22
  go_wp2
  refine bodyPost_ret (v := .agg #[.bool false, .float .f64 0, .bool true, .string name, .int .i64 1, .string t]) ?_ rfl ⟨rfl, ?_⟩
  · simp [results, Tryz.results22, go_sem]
    try rfl
  · go_grown
set_option maxRecDepth 100000 in
set_option maxHeartbeats 2000000 in
theorem out_nil (g : Nat) (name : ByteArray) (W : World) (hg : g < W.heap.size) (h0 : W.cell? ⟨g, 0, none⟩ = some (.string name)) (h1 : W.cell? ⟨g, 1, none⟩ = some .nilIface) :
    Calls Tryz.prog 22 #[.iface 62 (.pointer (some ⟨g, 0, none⟩))] W fun e w' => e = .returned (.agg #[.bool false, .float .f64 0, .bool true, .string name, .int .i64 0, .string ByteArray.empty]) ∧ Below W.heap.size W w' := by
  have a1 := as_te_f
  have a2 := as_te_te
  go_enter Tryz.func22, Tryz.ntmps22
  go_wp2
  refine bodyPost_ret (v := .agg #[.bool false, .float .f64 0, .bool true, .string name, .int .i64 0, .string ByteArray.empty]) ?_ rfl ⟨rfl, ?_⟩
  · simp [results, Tryz.results22, go_sem]
    try rfl
  · go_grown
end Go.Proofs.YtipinccflmmepaaGreatDoor
