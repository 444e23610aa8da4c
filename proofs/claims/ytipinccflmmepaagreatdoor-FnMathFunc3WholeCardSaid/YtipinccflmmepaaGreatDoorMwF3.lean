/- Contract: ZZB2MathFunc3. -/
import Derived.Test.YtipinccflmmepaaGreatDoorMwF1
import Derived.Deep.RegionHeld3
import Derived.Deep.RegionWith
namespace Go.Proofs.YtipinccflmmepaaGreatDoor
open Go.RowKit Go.Deep

@[go_sem] theorem field_cb3 (x y z : Value) (w : World) : (Instr.field 50 (.agg #[x, y, z]) 2).run Tryz.prog w = .ok z w := by kernel_rfl
def OutK3 (name : ByteArray) (rs : Res) (e : Ending) : Prop := ∃ a q c s k s2, e = .returned (.agg #[.bool a, .float .f64 q, .bool c, .string s, .int .i64 k, .string s2]) ∧ okOut name rs a q c s k s2
set_option maxRecDepth 100000 in
set_option maxHeartbeats 16000000 in
theorem zz3_any (name : ByteArray) (V A B C : MArg) (W : World) (hp : PfW W) :
    Calls Tryz.prog 18 #[.string name, .func (.func 19) #[] #[], argV V.kd V.x V.n V.t, argV A.kd A.x A.n A.t, argV B.kd B.x B.n B.t, argV C.kd C.x C.n C.t] W fun e w' => OutK3 name (res3 A B C) e ∧ Below W.heap.size W w' := by
  have HM := Lib.hid (fun w => mf3_any name w)
  unfold cb3V at HM
  have HAV : Hid (∀ w, Calls Tryz.prog 24 #[argV V.kd V.x V.n V.t] w fun e w' => e = .returned V.val ∧ Below w.heap.size w w') := Lib.hid (fun w => any_any V.kd V.x V.n V.t V.hk w)
  have HAA : Hid (∀ w, Calls Tryz.prog 24 #[argV A.kd A.x A.n A.t] w fun e w' => e = .returned A.val ∧ Below w.heap.size w w') := Lib.hid (fun w => any_any A.kd A.x A.n A.t A.hk w)
  have HAB : Hid (∀ w, Calls Tryz.prog 24 #[argV B.kd B.x B.n B.t] w fun e w' => e = .returned B.val ∧ Below w.heap.size w w') := Lib.hid (fun w => any_any B.kd B.x B.n B.t B.hk w)
  have HAC : Hid (∀ w, Calls Tryz.prog 24 #[argV C.kd C.x C.n C.t] w fun e w' => e = .returned C.val ∧ Below w.heap.size w w') := Lib.hid (fun w => any_any C.kd C.x C.n C.t C.hk w)
  have HC : Hid (∀ (v0 : Value) (p bk : Nat) w, PfW w → Cb3 name p w → w.cell? ⟨bk, 0, none⟩ = some A.val → w.cell? ⟨bk, 1, none⟩ = some B.val → w.cell? ⟨bk, 2, none⟩ = some C.val → Calls Tryz.prog 44 #[v0, .slice (some ⟨bk, 0, none⟩) 3 3, .pointer (some ⟨p, 0, none⟩)] w fun e w' => (∃ r, e = .returned r ∧ AnsR name (res3 A B C) r w') ∧ Below w.heap.size w w') := Lib.hid fun v0 p bk w h1 h2 g0 g1 g2 =>
    cb3_any name p bk v0 A B C w h1 h2 g0 g1 g2
  obtain ⟨rs, hrs⟩ : ∃ rs, (res3 A B C) = rs := ⟨_, rfl⟩
  rw [hrs] at HC ⊢
  clear hrs
  obtain ⟨vV, hvV, shV⟩ : ∃ v, V.val = v ∧ IfShape v := ⟨_, rfl, V.shape⟩
  rw [hvV] at HAV
  clear hvV
  obtain ⟨vA, hvA, shA⟩ : ∃ v, A.val = v ∧ IfShape v := ⟨_, rfl, A.shape⟩
  rw [hvA] at HAA HC
  clear hvA
  obtain ⟨vB, hvB, shB⟩ : ∃ v, B.val = v ∧ IfShape v := ⟨_, rfl, B.shape⟩
  rw [hvB] at HAB HC
  clear hvB
  obtain ⟨vC, hvC, shC⟩ : ∃ v, C.val = v ∧ IfShape v := ⟨_, rfl, C.shape⟩
  rw [hvC] at HAC HC
  clear hvC
  unfold argV at HAV HAA HAB HAC ⊢
  obtain ⟨sV, hsV⟩ : ∃ s, tOf V.kd V.n V.t = s := ⟨_, rfl⟩
  obtain ⟨kV, hkV⟩ : ∃ k : Int, (V.kd : Int) = k := ⟨_, rfl⟩
  obtain ⟨xV, hxV⟩ : ∃ k, V.x = k := ⟨_, rfl⟩
  obtain ⟨nV, hnV⟩ : ∃ k, V.n = k := ⟨_, rfl⟩
  rw [hsV, hkV, hxV, hnV] at HAV ⊢
  clear hsV hkV hxV hnV
  obtain ⟨sA, hsA⟩ : ∃ s, tOf A.kd A.n A.t = s := ⟨_, rfl⟩
  obtain ⟨kA, hkA⟩ : ∃ k : Int, (A.kd : Int) = k := ⟨_, rfl⟩
  obtain ⟨xA, hxA⟩ : ∃ k, A.x = k := ⟨_, rfl⟩
  obtain ⟨nA, hnA⟩ : ∃ k, A.n = k := ⟨_, rfl⟩
  rw [hsA, hkA, hxA, hnA] at HAA ⊢
  clear hsA hkA hxA hnA
  obtain ⟨sB, hsB⟩ : ∃ s, tOf B.kd B.n B.t = s := ⟨_, rfl⟩
  obtain ⟨kB, hkB⟩ : ∃ k : Int, (B.kd : Int) = k := ⟨_, rfl⟩
  obtain ⟨xB, hxB⟩ : ∃ k, B.x = k := ⟨_, rfl⟩
  obtain ⟨nB, hnB⟩ : ∃ k, B.n = k := ⟨_, rfl⟩
  rw [hsB, hkB, hxB, hnB] at HAB ⊢
  clear hsB hkB hxB hnB
  obtain ⟨sC, hsC⟩ : ∃ s, tOf C.kd C.n C.t = s := ⟨_, rfl⟩
  obtain ⟨kC, hkC⟩ : ∃ k : Int, (C.kd : Int) = k := ⟨_, rfl⟩
  obtain ⟨xC, hxC⟩ : ∃ k, C.x = k := ⟨_, rfl⟩
  obtain ⟨nC, hnC⟩ : ∃ k, C.n = k := ⟨_, rfl⟩
  rw [hsC, hkC, hxC, hnC] at HAC ⊢
  clear hsC hkC hxC hnC
  obtain ⟨W0, hW0⟩ : ∃ W0, ((((((((W.alloc (.cells #[.int .i64 kV, .float .f64 xV, .int .i64 nV, .string sV] 29))).alloc (.cells #[.int .i64 kA, .float .f64 xA, .int .i64 nA, .string sA] 29))).alloc (.cells #[.int .i64 kB, .float .f64 xB, .int .i64 nB, .string sB] 29))).alloc (.cells #[.int .i64 kC, .float .f64 xC, .int .i64 nC, .string sC] 29))).alloc (.cells #[.bool false, .float .f64 0, .bool false, .string ⟨#[]⟩, .int .i64 0, .string ⟨#[]⟩] 25) = W0 := ⟨_, rfl⟩
  have hsz : W0.heap.size = W.heap.size + 1 + 1 + 1 + 1 + 1 := by rw [← hW0]; simp
  have hB0 : Below W.heap.size W W0 := by rw [← hW0]; exact ((((((Below.refl _ W).alloc (Nat.le_refl _) _)).alloc (by simp; try omega) _).alloc (by simp; try omega) _).alloc (by simp; try omega) _).alloc (by simp; try omega) _
  have H0 : Hid (∀ w1, Below W0.heap.size W0 w1 → w1.heap[W.heap.size]? = some (.cells #[.int .i64 kV, .float .f64 xV, .int .i64 nV, .string sV] 29 (0, 0)) ∧ w1.heap[W.heap.size + 1]? = some (.cells #[.int .i64 kA, .float .f64 xA, .int .i64 nA, .string sA] 29 (0, 0)) ∧ w1.heap[W.heap.size + 1 + 1]? = some (.cells #[.int .i64 kB, .float .f64 xB, .int .i64 nB, .string sB] 29 (0, 0)) ∧ w1.heap[W.heap.size + 1 + 1 + 1]? = some (.cells #[.int .i64 kC, .float .f64 xC, .int .i64 nC, .string sC] 29 (0, 0)) ∧ w1.heap[W.heap.size + 1 + 1 + 1 + 1]? = some (.cells #[.bool false, .float .f64 0, .bool false, .string ⟨#[]⟩, .int .i64 0, .string ⟨#[]⟩] 25 (0, 0))) := Lib.hid fun w1 hb => by
    refine ⟨?_, ?_, ?_, ?_, ?_⟩
    all_goals rw [hb.block _ (by omega), ← hW0]

    · repeat (first | exact blk_top _ _ _ (by simp) | rw [Go.Deep.blk_alloc_lt _ _ _ (by first | (simp; done) | (simp; omega))])
    · repeat (first | exact blk_top _ _ _ (by simp) | rw [Go.Deep.blk_alloc_lt _ _ _ (by first | (simp; done) | (simp; omega))])
    · repeat (first | exact blk_top _ _ _ (by simp) | rw [Go.Deep.blk_alloc_lt _ _ _ (by first | (simp; done) | (simp; omega))])
    · repeat (first | exact blk_top _ _ _ (by simp) | rw [Go.Deep.blk_alloc_lt _ _ _ (by first | (simp; done) | (simp; omega))])
    · repeat (first | exact blk_top _ _ _ (by simp) | rw [Go.Deep.blk_alloc_lt _ _ _ (by first | (simp; done) | (simp; omega))])
  have HS := Lib.hid hsz
  have HB0 := Lib.hid hB0
  have HW0 := Lib.hid hW0
  have HP := Lib.hid (hp.later HB0.out)
  have HK : Hid (∀ w1, Below W0.heap.size W0 w1 → w1.cell? ⟨W.heap.size, 0, none⟩ = some (.int .i64 kV) ∧ w1.cell? ⟨W.heap.size, 1, none⟩ = some (.float .f64 xV) ∧ w1.cell? ⟨W.heap.size, 2, none⟩ = some (.int .i64 nV) ∧ w1.cell? ⟨W.heap.size, 3, none⟩ = some (.string sV) ∧ w1.cell? ⟨W.heap.size + 1, 0, none⟩ = some (.int .i64 kA) ∧ w1.cell? ⟨W.heap.size + 1, 1, none⟩ = some (.float .f64 xA) ∧ w1.cell? ⟨W.heap.size + 1, 2, none⟩ = some (.int .i64 nA) ∧ w1.cell? ⟨W.heap.size + 1, 3, none⟩ = some (.string sA) ∧ w1.cell? ⟨W.heap.size + 1 + 1, 0, none⟩ = some (.int .i64 kB) ∧ w1.cell? ⟨W.heap.size + 1 + 1, 1, none⟩ = some (.float .f64 xB) ∧ w1.cell? ⟨W.heap.size + 1 + 1, 2, none⟩ = some (.int .i64 nB) ∧ w1.cell? ⟨W.heap.size + 1 + 1, 3, none⟩ = some (.string sB) ∧ w1.cell? ⟨W.heap.size + 1 + 1 + 1, 0, none⟩ = some (.int .i64 kC) ∧ w1.cell? ⟨W.heap.size + 1 + 1 + 1, 1, none⟩ = some (.float .f64 xC) ∧ w1.cell? ⟨W.heap.size + 1 + 1 + 1, 2, none⟩ = some (.int .i64 nC) ∧ w1.cell? ⟨W.heap.size + 1 + 1 + 1, 3, none⟩ = some (.string sC)) := Lib.hid fun w1 hb => by
    obtain ⟨q0, q1, q2, q3, _⟩ := H0.out w1 hb
    exact ⟨cell_of_row _ _ 0 _ _ (0, 0) q0, cell_of_row _ _ 1 _ _ (0, 0) q0, cell_of_row _ _ 2 _ _ (0, 0) q0, cell_of_row _ _ 3 _ _ (0, 0) q0, cell_of_row _ _ 0 _ _ (0, 0) q1, cell_of_row _ _ 1 _ _ (0, 0) q1, cell_of_row _ _ 2 _ _ (0, 0) q1, cell_of_row _ _ 3 _ _ (0, 0) q1, cell_of_row _ _ 0 _ _ (0, 0) q2, cell_of_row _ _ 1 _ _ (0, 0) q2, cell_of_row _ _ 2 _ _ (0, 0) q2, cell_of_row _ _ 3 _ _ (0, 0) q2, cell_of_row _ _ 0 _ _ (0, 0) q3, cell_of_row _ _ 1 _ _ (0, 0) q3, cell_of_row _ _ 2 _ _ (0, 0) q3, cell_of_row _ _ 3 _ _ (0, 0) q3⟩
  obtain ⟨j00, j01, j02, j03, j10, j11, j12, j13, j20, j21, j22, j23, j30, j31, j32, j33⟩ := HK.out W0 (Below.refl _ _)
  clear hW0 hsz hB0 hp shV
  rcases shA with ⟨tA, yA, rfl⟩ | rfl <;> rcases shB with ⟨tB, yB, rfl⟩ | rfl <;> rcases shC with ⟨tC, yC, rfl⟩ | rfl
  all_goals (
    go_enter Tryz.func18, Tryz.ntmps18
    go_wp2_with fail
    rw [HW0.out]
    go_region_held3 (fun w1 => w1.cell? ⟨W.heap.size, 0, none⟩ = some (.int .i64 kV) ∧ w1.cell? ⟨W.heap.size, 1, none⟩ = some (.float .f64 xV) ∧ w1.cell? ⟨W.heap.size, 2, none⟩ = some (.int .i64 nV) ∧ w1.cell? ⟨W.heap.size, 3, none⟩ = some (.string sV) ∧ w1.cell? ⟨W.heap.size + 1, 0, none⟩ = some (.int .i64 kA) ∧ w1.cell? ⟨W.heap.size + 1, 1, none⟩ = some (.float .f64 xA) ∧ w1.cell? ⟨W.heap.size + 1, 2, none⟩ = some (.int .i64 nA) ∧ w1.cell? ⟨W.heap.size + 1, 3, none⟩ = some (.string sA) ∧ w1.cell? ⟨W.heap.size + 1 + 1, 0, none⟩ = some (.int .i64 kB) ∧ w1.cell? ⟨W.heap.size + 1 + 1, 1, none⟩ = some (.float .f64 xB) ∧ w1.cell? ⟨W.heap.size + 1 + 1, 2, none⟩ = some (.int .i64 nB) ∧ w1.cell? ⟨W.heap.size + 1 + 1, 3, none⟩ = some (.string sB) ∧ w1.cell? ⟨W.heap.size + 1 + 1 + 1, 0, none⟩ = some (.int .i64 kC) ∧ w1.cell? ⟨W.heap.size + 1 + 1 + 1, 1, none⟩ = some (.float .f64 xC) ∧ w1.cell? ⟨W.heap.size + 1 + 1 + 1, 2, none⟩ = some (.int .i64 nC) ∧ w1.cell? ⟨W.heap.size + 1 + 1 + 1, 3, none⟩ = some (.string sC)) (first | ((rw [cell_set6 _ _ _ _ _ _ _ _ _ (by first | (simp; done) | (simp; omega))]); (repeat rw [cell_set6 _ _ _ _ _ _ _ _ _ (by first | (simp; done) | (simp; omega))]); exact HK.out _ HQ7.out) | with_reducible first | exact HK.out _ HQ7.out | exact HK.out _ HQ7.out.drew | exact HK.out _ (HQ7.out.alloc HQ7.out.size _) | exact HK.out _ HQ6.out | exact HK.out _ HQ6.out.drew | exact HK.out _ (HQ6.out.alloc HQ6.out.size _) | exact HK.out _ HQ5.out | exact HK.out _ HQ5.out.drew | exact HK.out _ (HQ5.out.alloc HQ5.out.size _) | exact HK.out _ HQ4.out | exact HK.out _ HQ4.out.drew | exact HK.out _ (HQ4.out.alloc HQ4.out.size _) | exact HK.out _ HQ3.out | exact HK.out _ HQ3.out.drew | exact HK.out _ (HQ3.out.alloc HQ3.out.size _) | exact HK.out _ HQ2.out | exact HK.out _ HQ2.out.drew | exact HK.out _ (HQ2.out.alloc HQ2.out.size _) | exact HK.out _ HQ1.out | exact HK.out _ HQ1.out.drew | exact HK.out _ (HQ1.out.alloc HQ1.out.size _) | exact HK.out _ (Below.refl _ _) | exact HK.out _ (Below.refl _ _).drew) (first | (go_at_call 28; refine (HM.out _).mono ?_; rintro e w1 ⟨⟨p, rfl, hcb⟩, hb1⟩; have hq : Below W0.heap.size W0 w1 := (by first | exact hb1 | exact (Below.refl _ _).drew.trans hb1 | exact (Below.refl _ _).drew.drew.trans hb1); have HQ1 := Lib.hid hq; have hp1 := Lib.hid (HP.out.later hq); have HCB1 := Lib.hid hcb; clear hq hb1 hcb; obtain ⟨m1x00, m1x01, m1x02, m1x03, m1x10, m1x11, m1x12, m1x13, m1x20, m1x21, m1x22, m1x23, m1x30, m1x31, m1x32, m1x33⟩ := HK.out _ HQ1.out) | (go_at_call_of 24 (Value.agg #[.int .i64 kV, .float .f64 xV, .int .i64 nV, .string sV]); refine (HAV.out _).mono ?_; rintro e w2 ⟨rfl, hb2⟩; have hp2 := Lib.hid (hp1.out.later hb2); have HCB2 := Lib.hid (HCB1.out.later hb2); have HQ2 := Lib.hid (HQ1.out.trans (hb2.mono HQ1.out.size)); clear hb2; obtain ⟨m2x00, m2x01, m2x02, m2x03, m2x10, m2x11, m2x12, m2x13, m2x20, m2x21, m2x22, m2x23, m2x30, m2x31, m2x32, m2x33⟩ := HK.out _ HQ2.out) | (go_at_call_of 24 (Value.agg #[.int .i64 kA, .float .f64 xA, .int .i64 nA, .string sA]); refine (HAA.out _).mono ?_; rintro e w3 ⟨rfl, hb3⟩; have hp3 := Lib.hid (hp2.out.later hb3); have HCB3 := Lib.hid (HCB2.out.later hb3); have HQ3 := Lib.hid (HQ2.out.trans (hb3.mono HQ2.out.size)); clear hb3; obtain ⟨m3x00, m3x01, m3x02, m3x03, m3x10, m3x11, m3x12, m3x13, m3x20, m3x21, m3x22, m3x23, m3x30, m3x31, m3x32, m3x33⟩ := HK.out _ HQ3.out) | (go_at_call_of 24 (Value.agg #[.int .i64 kB, .float .f64 xB, .int .i64 nB, .string sB]); refine (HAB.out _).mono ?_; rintro e w4 ⟨rfl, hb4⟩; have hp4 := Lib.hid (hp3.out.later hb4); have HCB4 := Lib.hid (HCB3.out.later hb4); have HQ4 := Lib.hid (HQ3.out.trans (hb4.mono HQ3.out.size)); clear hb4; obtain ⟨m4x00, m4x01, m4x02, m4x03, m4x10, m4x11, m4x12, m4x13, m4x20, m4x21, m4x22, m4x23, m4x30, m4x31, m4x32, m4x33⟩ := HK.out _ HQ4.out) | (go_at_call_of 24 (Value.agg #[.int .i64 kC, .float .f64 xC, .int .i64 nC, .string sC]); refine (HAC.out _).mono ?_; rintro e w5 ⟨rfl, hb5⟩; have hp5 := Lib.hid (hp4.out.later hb5); have HCB5 := Lib.hid (HCB4.out.later hb5); have HQ5 := Lib.hid (HQ4.out.trans (hb5.mono HQ4.out.size)); clear hb5; obtain ⟨m5x00, m5x01, m5x02, m5x03, m5x10, m5x11, m5x12, m5x13, m5x20, m5x21, m5x22, m5x23, m5x30, m5x31, m5x32, m5x33⟩ := HK.out _ HQ5.out) | (go_at_call 44; refine (HC.out _ _ _ _ (hp5.out.later (by first | exact below_al _ _ | exact (below_al _ _).drew)) (HCB5.out.later (by first | exact below_al _ _ | exact (below_al _ _).drew)) (cell_al _ _ _ 0 _ rfl) (cell_al _ _ _ 1 _ rfl) (cell_al _ _ _ 2 _ rfl)).mono ?_; rintro e w6 ⟨⟨r, rfl, hr⟩, hb6⟩; have HR := Lib.hid hr; have HQ6 := Lib.hid (HQ5.out.trans (Below.trans (by first | exact (below_al _ _).mono HQ5.out.size | exact (below_al _ _).drew.mono HQ5.out.size) (hb6.mono (by have := HQ5.out.size; simp; omega)))); clear hb6 hr) | (go_at_call 22; refine (out_any name rs _ _ HR.out).mono ?_; rintro e w7 ⟨⟨a, q, c, s, k, s2, rfl, hok⟩, hb7⟩; have HQ7 := Lib.hid (HQ6.out.trans (hb7.mono HQ6.out.size)); have HOK := Lib.hid hok; clear hb7 hok; obtain ⟨_, _, _, _, r1⟩ := H0.out _ HQ7.out; have rc0 : w7.cell? ⟨W.heap.size + 1 + 1 + 1 + 1, 0, none⟩ = some (.bool false) := cell_of_row _ _ 0 _ _ (0, 0) r1; have rc1 : w7.cell? ⟨W.heap.size + 1 + 1 + 1 + 1, 1, none⟩ = some (.float .f64 0) := cell_of_row _ _ 1 _ _ (0, 0) r1; have rc2 : w7.cell? ⟨W.heap.size + 1 + 1 + 1 + 1, 2, none⟩ = some (.bool false) := cell_of_row _ _ 2 _ _ (0, 0) r1; have rc3 : w7.cell? ⟨W.heap.size + 1 + 1 + 1 + 1, 3, none⟩ = some (.string ⟨#[]⟩) := cell_of_row _ _ 3 _ _ (0, 0) r1; have rc4 : w7.cell? ⟨W.heap.size + 1 + 1 + 1 + 1, 4, none⟩ = some (.int .i64 0) := cell_of_row _ _ 4 _ _ (0, 0) r1; have rc5 : w7.cell? ⟨W.heap.size + 1 + 1 + 1 + 1, 5, none⟩ = some (.string ⟨#[]⟩) := cell_of_row _ _ 5 _ _ (0, 0) r1; have rf : ∀ o, w7.frozen? ⟨W.heap.size + 1 + 1 + 1 + 1, o, none⟩ = false := fun o => by simp [World.frozen?, show w7.heap[W.heap.size + 1 + 1 + 1 + 1]? = _ from r1]))
    all_goals go_wp2
    all_goals (refine bodyPost_ret (v := .agg #[.bool a, .float .f64 q, .bool c, .string s, .int .i64 k, .string s2]) ?_ rfl ⟨⟨a, q, c, s, k, s2, rfl, HOK.out⟩, ?_⟩)
    all_goals first
      | (go_grown; exact HB0.out.trans (HQ7.out.mono (by have := HS.out; omega)))
      | (simp [results, Tryz.results18, go_sem, rc0, rc1, rc2, rc3, rc4, rc5]; try rfl))
end Go.Proofs.YtipinccflmmepaaGreatDoor
