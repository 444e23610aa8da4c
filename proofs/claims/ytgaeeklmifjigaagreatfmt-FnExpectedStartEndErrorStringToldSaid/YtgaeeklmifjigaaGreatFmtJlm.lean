/- Contracts: the deferred closure of jsonLimitedMarshal in a frame that returns, and jsonLimitedMarshal where what is written fits. -/
import Derived.Test.YtgaeeklmifjigaaGreatFmtEncL
import Derived.Deep.OwnRows
namespace Go.Proofs.YtgaeeklmifjigaaGreatFmt
open Go.RowKit Go.Deep Go.Lib Go.Sort

theorem jlmIdle (lw bb pv rc : Nat) (l : List UInt8) (hl : l.length ≤ 32) (w : World) (h : Lw lw bb w l) (hp : w.cell? ⟨pv, 0, none⟩ = some (.pointer (some ⟨lw, 0, none⟩))) (hz : w.frozen? ⟨rc, 0, none⟩ = false) (x : Value) (hx : w.cell? ⟨rc, 0, none⟩ = some x) :
    CallsD Tryz.prog 70 #[.pointer (some ⟨pv, 0, none⟩), .pointer (some ⟨rc, 0, none⟩)] .returning w fun e u' w' =>
      e = .returned (.tuple #[]) ∧ u' = .returning ∧ ∃ n, w' = (w.drewN n).setCell ⟨rc, 0, none⟩ (.slice (some ⟨bb, 0, none⟩) l.length 32) := by
  have HB := fun w h => Lib.hid (lwBytes_any lw bb l hl w h)
  have HB0 := HB w h
  clear HB h
  refine callsD_of_wpS Tryz.func70 rfl fun c₀ cs hu => ?_
  apply wpS_seq
  apply wpS_region
  simp [wpOpsS, go_sem, recoverD, hu, Tryz.ntmps70, Exit.thenS]
  refine wpS_of_wp ?_
  go_wp2_with (go_at_call 71; refine HB0.out.mono ?_; rintro e w2 ⟨rfl, n, rfl⟩)
  cases c₀
  simp_all [bodyPostS, results, Tryz.results70]
  exact ⟨n, rfl⟩

theorem info_u8j : (Tryz.prog.info? 5).map (fun i => (i.zero, i.size, i.bytes)) = some (some (.int .u8 0), 1, 1) := by kernel_rfl
structure Five (W w : World) (a b c d e : Obj) : Prop where
  b0 : w.heap[W.heap.size]? = some a
  b1 : w.heap[W.heap.size + 1]? = some b
  b2 : w.heap[W.heap.size + 1 + 1]? = some c
  b3 : w.heap[W.heap.size + 1 + 1 + 1]? = some d
  b4 : w.heap[W.heap.size + 1 + 1 + 1 + 1]? = some e
  size : w.heap.size = W.heap.size + 5
  below : Below W.heap.size W w
theorem five (W : World) (a b c d e : Obj) : Five W (((((W.alloc a).alloc b).alloc c).alloc d).alloc e) a b c d e := by
  have p1 : ∀ (w : World) (o : Obj) (k : Nat), k = w.heap.size → (w.alloc o).heap[k]? = some o := by
    rintro w o k rfl
    exact heap_alloc_new w o
  have p2 : ∀ (w : World) (o : Obj) (k : Nat), k < w.heap.size → (w.alloc o).heap[k]? = w.heap[k]? := fun w o k h => by
    have hp : (w.alloc o).heap = w.heap.push o := rfl
    rw [hp, Array.getElem?_push_lt h]
    exact (Array.getElem?_eq_getElem h).symm
  refine ⟨?_, ?_, ?_, ?_, ?_, ?_, ?_⟩
  · exact (p2 _ e _ (by simp only [nblk_alloc]; omega)).trans ((p2 _ d _ (by simp only [nblk_alloc]; omega)).trans ((p2 _ c _ (by simp only [nblk_alloc]; omega)).trans ((p2 _ b _ (by simp only [nblk_alloc]; omega)).trans (p1 _ a _ rfl))))
  · exact (p2 _ e _ (by simp only [nblk_alloc]; omega)).trans ((p2 _ d _ (by simp only [nblk_alloc]; omega)).trans ((p2 _ c _ (by simp only [nblk_alloc]; omega)).trans (p1 _ b _ (by simp only [nblk_alloc]))))
  · exact (p2 _ e _ (by simp only [nblk_alloc]; omega)).trans ((p2 _ d _ (by simp only [nblk_alloc]; omega)).trans (p1 _ c _ (by simp only [nblk_alloc])))
  · exact (p2 _ e _ (by simp only [nblk_alloc]; omega)).trans (p1 _ d _ (by simp only [nblk_alloc]))
  · exact p1 _ e _ (by simp only [nblk_alloc])
  · simp only [nblk_alloc]
  · refine ((((((Below.refl _ _).alloc ?_ a).alloc ?_ b).alloc ?_ c).alloc ?_ d).alloc ?_ e)
    all_goals (try simp only [nblk_alloc])
    all_goals omega
theorem zeroEnc_size : Tryz.zeroCells45.size = 65 := by kernel_rfl
set_option maxHeartbeats 2000000 in
set_option maxRecDepth 100000 in
/-- jsonLimitedMarshal where what is written stays below 32 bytes. -/
theorem jlm_any (v : Value) (l : List UInt8) (hl : l.length < 32) (W : World)
    (HV : Hid (∀ lw bb eb w, Lw lw bb w [] → Enc 45 eb (lwI lw) w [] → lw ≠ bb → W.heap.size ≤ lw → W.heap.size ≤ bb → W.heap.size ≤ eb → eb ≠ lw → eb ≠ bb → Below W.heap.size W w →
      Calls Tryz.prog 30 #[.pointer (some ⟨eb, 0, none⟩), v] w (EncLEnd lw bb eb l w))) :
    Calls Tryz.prog 49 #[v, .int .i64 32] W fun e w' =>
      e = .returned (.slice (some ⟨W.heap.size + 1, 0, none⟩) l.length 32) ∧ Below W.heap.size W w' ∧
      ∃ cur : Array Value, w'.heap[W.heap.size + 1]? = some (.cells cur 5 (0, 0)) ∧ cur.size = 32 ∧ ∀ (j : Nat) (b : UInt8), l[j]? = some b → cur[j]? = some (.int .u8 (b.toNat : Int)) := by
  have hmf : ∀ (fn : Fn) (first cap : Array Value) (w : World), (Instr.makeFunc fn first cap).run Tryz.prog w = .ok (.func fn first cap) w := fun _ _ _ _ => rfl
  obtain ⟨C, hC⟩ : ∃ C, madeCells #[Value.int IntKind.u8 0] 32 = C := ⟨_, rfl⟩
  have hmk : ∀ w, (Instr.makeSlice 25 (.int .i64 32) (.int .i64 32)).run Tryz.prog w = .ok (.slice (some ⟨w.heap.size, 0, none⟩) 32 32) (w.alloc (.cells C 5)) := fun w => hC ▸ run_make_row' (P := Tryz.prog) 25 5 (.int .u8 0) 1 Tryz.underlying25 info_u8j rfl .i64 .i64 32 (by omega) (by omega) w
  go_enter_defers Tryz.func49, Tryz.ntmps49
  go_wp2_with fail
  refine (HV.out (W.heap.size + 1 + 1) (W.heap.size + 1) (W.heap.size + 1 + 1 + 1 + 1) _ ?_ ?_ (by omega) (by omega) (by omega) (by omega) (by omega) (by omega) (five W _ _ _ _ _).below).mono ?_
  · exact ⟨(five W _ _ _ _ _).b2, C, (five W _ _ _ _ _).b1, by rw [← hC]; kernel_rfl, fun j b hj => by simp at hj⟩
  · exact ⟨_, (five W _ _ _ _ _).b4, by simp, by simp [lwI], fun j b hj => by simp at hj⟩
  rintro e w6 ⟨rfl, hL, h3⟩
  have hf := five W (Obj.cells #[Value.slice none 0 0] 25) (Obj.cells C 5) (Obj.cells #[Value.slice (some ⟨W.heap.size + 1, 0, none⟩) 32 32, Value.int .i64 0] 117) (Obj.cells #[Value.pointer (some ⟨W.heap.size + 1 + 1, 0, none⟩)] 115) (Obj.cells (Tryz.zeroCells45.setIfInBounds 0 (Value.iface 115 (Value.pointer (some ⟨W.heap.size + 1 + 1, 0, none⟩)))) 45)
  have k0 : w6.heap[W.heap.size]? = some (Obj.cells #[Value.slice none 0 0] 25) := (h3.block _ (by rw [hf.size]; omega) (by omega) (by omega) (by omega)).trans hf.b0
  have k3 : w6.heap[W.heap.size + 1 + 1 + 1]? = some (Obj.cells #[Value.pointer (some ⟨W.heap.size + 1 + 1, 0, none⟩)] 115) := (h3.block _ (by rw [hf.size]; omega) (by omega) (by omega) (by omega)).trans hf.b3
  have hb6 : Below W.heap.size W w6 := hf.below.trans (h3.below (by omega) (by omega) (by omega) (by rw [hf.size]; omega))
  clear h3
  go_wp2_with fail
  refine leaves_cons (f := 70) (args := #[.pointer (some ⟨W.heap.size + 1 + 1 + 1, 0, none⟩), .pointer (some ⟨W.heap.size, 0, none⟩)]) (by simp) (by simp [go_sem]) ?_
  refine (jlmIdle (W.heap.size + 1 + 1) (W.heap.size + 1) _ _ l (by omega) w6 hL ?_ ?_ (.slice none 0 0) ?_).mono ?_
  · rw [Lib.cell_of_heap k3]; rfl
  · exact Lib.frozen_of_heap k0 0
  · rw [Lib.cell_of_heap k0]; rfl
  rintro e u' w'' ⟨rfl, rfl, n, rfl⟩
  have hc0 : ((w6.drewN n).setCell ⟨W.heap.size, 0, none⟩ (.slice (some ⟨W.heap.size + 1, 0, none⟩) l.length 32)).cell? ⟨W.heap.size, 0, none⟩ = some (.slice (some ⟨W.heap.size + 1, 0, none⟩) l.length 32) :=
    World.cell?_setCell_same _ _ _ (by rw [show (w6.drewN n).cell? ⟨W.heap.size, 0, none⟩ = w6.cell? ⟨W.heap.size, 0, none⟩ from rfl, Lib.cell_of_heap k0]; rfl)
  have hB : Below W.heap.size W ((w6.drewN n).setCell ⟨W.heap.size, 0, none⟩ (.slice (some ⟨W.heap.size + 1, 0, none⟩) l.length 32)) := Below.setCell (p := ⟨W.heap.size, 0, none⟩) (show Below W.heap.size W (w6.drewN n) from ⟨hb6.os, hb6.tape, hb6.output, hb6.size, hb6.block⟩) (Nat.le_refl _) _
  have hR : ∃ cur : Array Value, ((w6.drewN n).setCell ⟨W.heap.size, 0, none⟩ (.slice (some ⟨W.heap.size + 1, 0, none⟩) l.length 32)).heap[W.heap.size + 1]? = some (.cells cur 5 (0, 0)) ∧ cur.size = 32 ∧ ∀ (j : Nat) (b : UInt8), l[j]? = some b → cur[j]? = some (.int .u8 (b.toNat : Int)) := by
    obtain ⟨_, cur, hb, h1, h2⟩ := hL
    exact ⟨cur, by rw [Below.heap_setCell _ _ _ _ (by simp)]; exact hb, h1, h2⟩
  simp [Leaves, settle, results, Tryz.results49, go_sem, hc0]
  exact ⟨hB, hR⟩
end Go.Proofs.YtgaeeklmifjigaaGreatFmt
