/- Contract: ZZB2MathFunc1. -/
import Derived.Test.YtipinccflmmepaaGreatDoorMwE
import Derived.Deep.RegionHeld3
import Derived.Deep.RegionWith
namespace Go.Proofs.YtipinccflmmepaaGreatDoor
open Go.RowKit Go.Deep

@[go_sem] theorem field_cb1 (x y z : Value) (w : World) : (Instr.field 50 (.agg #[x, y, z]) 2).run Tryz.prog w = .ok z w := by kernel_rfl
def OutK1 (name : ByteArray) (rs : Res) (e : Ending) : Prop := ∃ a q c s k s2, e = .returned (.agg #[.bool a, .float .f64 q, .bool c, .string s, .int .i64 k, .string s2]) ∧ okOut name rs a q c s k s2
def IfShape (v : Value) : Prop := (∃ t x, v = .iface t x) ∨ v = .nilIface
theorem MArg.shape (A : MArg) : IfShape A.val := by
  have h := A.hk
  unfold MArg.val anyOf
  rcases (show A.kd = 0 ∨ A.kd = 1 ∨ A.kd = 2 ∨ A.kd = 3 ∨ A.kd = 4 by omega) with h | h | h | h | h <;> rw [h]
  · exact .inl ⟨_, _, rfl⟩
  · exact .inl ⟨_, _, rfl⟩
  · exact .inl ⟨_, _, rfl⟩
  · exact .inl ⟨_, _, rfl⟩
  · exact .inr rfl
theorem blk_top (w : World) (o : Obj) (g : Nat) (h : g = w.heap.size) : (w.alloc o).heap[g]? = some o := by
  subst h
  exact heap_alloc_new _ _
theorem cell_set6 (w : World) (g : Nat) (a b c d e f : Value) (p : Addr) (h : p.block ≠ g) : ((((((w.setCell ⟨g, 0, none⟩ a).setCell ⟨g, 1, none⟩ b).setCell ⟨g, 2, none⟩ c).setCell ⟨g, 3, none⟩ d).setCell ⟨g, 4, none⟩ e).setCell ⟨g, 5, none⟩ f).cell? p = w.cell? p := by
  rw [World.cell?_setCell_far _ _ _ _ (Ne.symm h), World.cell?_setCell_far _ _ _ _ (Ne.symm h), World.cell?_setCell_far _ _ _ _ (Ne.symm h), World.cell?_setCell_far _ _ _ _ (Ne.symm h), World.cell?_setCell_far _ _ _ _ (Ne.symm h), World.cell?_setCell_far _ _ _ _ (Ne.symm h)]
theorem below_al (w : World) (o : Obj) : Below w.heap.size w (w.alloc o) := (Below.refl _ _).alloc (Nat.le_refl _) _
theorem cell_al (w : World) (c : Array Value) (t : TypeId) (i : Nat) (v : Value) (h : c[i]? = some v) : (w.alloc (.cells c t)).cell? ⟨w.heap.size, i, none⟩ = some v := by
  rw [World.cell?_alloc_new]
  exact h
set_option maxRecDepth 100000 in
set_option maxHeartbeats 16000000 in
theorem zz1_any (name : ByteArray) (A : MArg) (W : World) (hp : PfW W) :
    Calls Tryz.prog 8 #[.string name, .func (.func 9) #[] #[], argV A.kd A.x A.n A.t] W fun e w' => OutK1 name (A.res fun b => .num (· = Go.Op.negFloat .f64 b)) e ∧ Below W.heap.size W w' := by
  have HM := Lib.hid (fun w => mf_any name w)
  unfold cbV at HM
  have HAA : Hid (∀ w, Calls Tryz.prog 24 #[argV A.kd A.x A.n A.t] w fun e w' => e = .returned A.val ∧ Below w.heap.size w w') := Lib.hid (fun w => any_any A.kd A.x A.n A.t A.hk w)
  have HC : Hid (∀ p w, PfW w → Cb1 name p w → Calls Tryz.prog 40 #[A.val, .slice none 0 0, .pointer (some ⟨p, 0, none⟩)] w fun e w' => (∃ r, e = .returned r ∧ AnsR name (A.res fun b => .num (· = Go.Op.negFloat .f64 b)) r w') ∧ Below w.heap.size w w') := Lib.hid fun p w h1 h2 =>
    (cb1_any name p A.kd A.x A.n A.t A.hk A.hn w h1 h2).mono fun e w' h => ⟨ans1 A h.1, h.2⟩
  obtain ⟨rs, hrs⟩ : ∃ rs, (A.res fun b => .num (· = Go.Op.negFloat .f64 b)) = rs := ⟨_, rfl⟩
  rw [hrs] at HC ⊢
  clear hrs
  obtain ⟨vA, hvA, shA⟩ : ∃ v, A.val = v ∧ IfShape v := ⟨_, rfl, A.shape⟩
  rw [hvA] at HAA HC
  clear hvA
  unfold argV at HAA ⊢
  obtain ⟨sA, hsA⟩ : ∃ s, tOf A.kd A.n A.t = s := ⟨_, rfl⟩
  obtain ⟨kA, hkA⟩ : ∃ k : Int, (A.kd : Int) = k := ⟨_, rfl⟩
  obtain ⟨xA, hxA⟩ : ∃ k, A.x = k := ⟨_, rfl⟩
  obtain ⟨nA, hnA⟩ : ∃ k, A.n = k := ⟨_, rfl⟩
  rw [hsA, hkA, hxA, hnA] at HAA ⊢
  clear hsA hkA hxA hnA
  obtain ⟨W0, hW0⟩ : ∃ W0, ((W.alloc (.cells #[.int .i64 kA, .float .f64 xA, .int .i64 nA, .string sA] 29))).alloc (.cells #[.bool false, .float .f64 0, .bool false, .string ⟨#[]⟩, .int .i64 0, .string ⟨#[]⟩] 25) = W0 := ⟨_, rfl⟩
  have hsz : W0.heap.size = W.heap.size + 1 + 1 := by rw [← hW0]; simp
  have hB0 : Below W.heap.size W W0 := by rw [← hW0]; exact (((Below.refl _ W).alloc (Nat.le_refl _) _)).alloc (by simp; try omega) _
  have H0 : Hid (∀ w1, Below W0.heap.size W0 w1 → w1.heap[W.heap.size]? = some (.cells #[.int .i64 kA, .float .f64 xA, .int .i64 nA, .string sA] 29 (0, 0)) ∧ w1.heap[W.heap.size + 1]? = some (.cells #[.bool false, .float .f64 0, .bool false, .string ⟨#[]⟩, .int .i64 0, .string ⟨#[]⟩] 25 (0, 0))) := Lib.hid fun w1 hb => by
    refine ⟨?_, ?_⟩
    all_goals rw [hb.block _ (by omega), ← hW0]

    · repeat (first | exact blk_top _ _ _ (by simp) | rw [Go.Deep.blk_alloc_lt _ _ _ (by first | (simp; done) | (simp; omega))])
    · repeat (first | exact blk_top _ _ _ (by simp) | rw [Go.Deep.blk_alloc_lt _ _ _ (by first | (simp; done) | (simp; omega))])
  have HS := Lib.hid hsz
  have HB0 := Lib.hid hB0
  have HW0 := Lib.hid hW0
  have HP := Lib.hid (hp.later HB0.out)
  have HK : Hid (∀ w1, Below W0.heap.size W0 w1 → w1.cell? ⟨W.heap.size, 0, none⟩ = some (.int .i64 kA) ∧ w1.cell? ⟨W.heap.size, 1, none⟩ = some (.float .f64 xA) ∧ w1.cell? ⟨W.heap.size, 2, none⟩ = some (.int .i64 nA) ∧ w1.cell? ⟨W.heap.size, 3, none⟩ = some (.string sA)) := Lib.hid fun w1 hb => by
    obtain ⟨q0, _⟩ := H0.out w1 hb
    exact ⟨cell_of_row _ _ 0 _ _ (0, 0) q0, cell_of_row _ _ 1 _ _ (0, 0) q0, cell_of_row _ _ 2 _ _ (0, 0) q0, cell_of_row _ _ 3 _ _ (0, 0) q0⟩
  obtain ⟨j00, j01, j02, j03⟩ := HK.out W0 (Below.refl _ _)
  clear hW0 hsz hB0 hp shA
  go_enter Tryz.func8, Tryz.ntmps8
  go_wp2_with fail
  rw [HW0.out]
  go_region_held3 (fun w1 => w1.cell? ⟨W.heap.size, 0, none⟩ = some (.int .i64 kA) ∧ w1.cell? ⟨W.heap.size, 1, none⟩ = some (.float .f64 xA) ∧ w1.cell? ⟨W.heap.size, 2, none⟩ = some (.int .i64 nA) ∧ w1.cell? ⟨W.heap.size, 3, none⟩ = some (.string sA)) (first | ((rw [cell_set6 _ _ _ _ _ _ _ _ _ (by first | (simp; done) | (simp; omega))]); (repeat rw [cell_set6 _ _ _ _ _ _ _ _ _ (by first | (simp; done) | (simp; omega))]); exact HK.out _ HQ4.out) | with_reducible first | exact HK.out _ HQ4.out | exact HK.out _ HQ4.out.drew | exact HK.out _ (HQ4.out.alloc HQ4.out.size _) | exact HK.out _ HQ3.out | exact HK.out _ HQ3.out.drew | exact HK.out _ (HQ3.out.alloc HQ3.out.size _) | exact HK.out _ HQ2.out | exact HK.out _ HQ2.out.drew | exact HK.out _ (HQ2.out.alloc HQ2.out.size _) | exact HK.out _ HQ1.out | exact HK.out _ HQ1.out.drew | exact HK.out _ (HQ1.out.alloc HQ1.out.size _) | exact HK.out _ (Below.refl _ _) | exact HK.out _ (Below.refl _ _).drew) (first | (go_at_call 23; refine (HM.out _).mono ?_; rintro e w1 ⟨⟨p, rfl, hcb⟩, hb1⟩; have hq : Below W0.heap.size W0 w1 := (by first | exact hb1 | exact (Below.refl _ _).drew.trans hb1 | exact (Below.refl _ _).drew.drew.trans hb1); have HQ1 := Lib.hid hq; have hp1 := Lib.hid (HP.out.later hq); have HCB1 := Lib.hid hcb; clear hq hb1 hcb; obtain ⟨m1x00, m1x01, m1x02, m1x03⟩ := HK.out _ HQ1.out) | (go_at_call_of 24 (Value.agg #[.int .i64 kA, .float .f64 xA, .int .i64 nA, .string sA]); refine (HAA.out _).mono ?_; rintro e w2 ⟨rfl, hb2⟩; have hp2 := Lib.hid (hp1.out.later hb2); have HCB2 := Lib.hid (HCB1.out.later hb2); have HQ2 := Lib.hid (HQ1.out.trans (hb2.mono HQ1.out.size)); clear hb2; obtain ⟨m2x00, m2x01, m2x02, m2x03⟩ := HK.out _ HQ2.out) | (go_at_call 40; refine (HC.out _ _ hp2.out HCB2.out).mono ?_; rintro e w3 ⟨⟨r, rfl, hr⟩, hb3⟩; have HR := Lib.hid hr; have HQ3 := Lib.hid (HQ2.out.trans (hb3.mono HQ2.out.size)); clear hb3 hr) | (go_at_call 22; refine (out_any name rs _ _ HR.out).mono ?_; rintro e w4 ⟨⟨a, q, c, s, k, s2, rfl, hok⟩, hb4⟩; have HQ4 := Lib.hid (HQ3.out.trans (hb4.mono HQ3.out.size)); have HOK := Lib.hid hok; clear hb4 hok; obtain ⟨_, r1⟩ := H0.out _ HQ4.out; have rc0 : w4.cell? ⟨W.heap.size + 1, 0, none⟩ = some (.bool false) := cell_of_row _ _ 0 _ _ (0, 0) r1; have rc1 : w4.cell? ⟨W.heap.size + 1, 1, none⟩ = some (.float .f64 0) := cell_of_row _ _ 1 _ _ (0, 0) r1; have rc2 : w4.cell? ⟨W.heap.size + 1, 2, none⟩ = some (.bool false) := cell_of_row _ _ 2 _ _ (0, 0) r1; have rc3 : w4.cell? ⟨W.heap.size + 1, 3, none⟩ = some (.string ⟨#[]⟩) := cell_of_row _ _ 3 _ _ (0, 0) r1; have rc4 : w4.cell? ⟨W.heap.size + 1, 4, none⟩ = some (.int .i64 0) := cell_of_row _ _ 4 _ _ (0, 0) r1; have rc5 : w4.cell? ⟨W.heap.size + 1, 5, none⟩ = some (.string ⟨#[]⟩) := cell_of_row _ _ 5 _ _ (0, 0) r1; have rf : ∀ o, w4.frozen? ⟨W.heap.size + 1, o, none⟩ = false := fun o => by simp [World.frozen?, show w4.heap[W.heap.size + 1]? = _ from r1]))
  all_goals go_wp2
  all_goals (refine bodyPost_ret (v := .agg #[.bool a, .float .f64 q, .bool c, .string s, .int .i64 k, .string s2]) ?_ rfl ⟨⟨a, q, c, s, k, s2, rfl, HOK.out⟩, ?_⟩)
  all_goals first
    | (go_grown; exact HB0.out.trans (HQ4.out.mono (by have := HS.out; omega)))
    | (simp [results, Tryz.results8, go_sem, rc0, rc1, rc2, rc3, rc4, rc5]; try rfl)
end Go.Proofs.YtipinccflmmepaaGreatDoor
