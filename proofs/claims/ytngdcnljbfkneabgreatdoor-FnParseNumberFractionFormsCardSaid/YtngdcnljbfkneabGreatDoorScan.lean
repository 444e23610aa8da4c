/- bigall's nat.scan at a short run of digits with an 'e' behind it. -/
import Derived.Test.YtngdcnljbfkneabGreatDoorNat
namespace Go.Proofs.YtngdcnljbfkneabGreatDoor
open Go.RowKit Go.Dec Go.Lib Go.Deep

theorem err_iface : Tryz.prog.underlying 44 = some (.interface (Tryz.prog.methodsAt 44)) := by kernel_rfl
theorem equalIn_nil_held (d : Nat) (u : TypeId) (x : Value) (w : World) : (Op.equalIn (d + 1) 44 .nilIface (.iface u x)).run Tryz.prog w = .ok false w := by
  simp [Op.equalIn, run_underlying err_iface]
theorem equal_nil_held (u : TypeId) (x : Value) (w : World) : (Op.equal 44 .nilIface (.iface u x)).run Tryz.prog w = .ok false w := equalIn_nil_held 9999 u x w
@[go_sem] theorem eql_nil_held (u : TypeId) (x : Value) (w : World) : (binOp .eql 44 .nilIface (.iface u x)).run Tryz.prog w = .ok (.bool false) w := by
  simp only [binOp]
  simp [equal_nil_held u x w]
@[go_sem] theorem neq_nil_held (u : TypeId) (x : Value) (w : World) : (binOp .neq 44 .nilIface (.iface u x)).run Tryz.prog w = .ok (.bool true) w := by
  simp only [binOp]
  simp [equal_nil_held u x w]
theorem part_step (u L k : Nat) (hk : k < L) : u / 10 ^ (L - (k + 1)) = u / 10 ^ (L - k) * 10 + u / 10 ^ (L - 1 - k) % 10 := by
  have e1 : L - k = (L - 1 - k) + 1 := by omega
  have e2 : L - (k + 1) = L - 1 - k := by omega
  rw [e1, e2, Nat.pow_succ, ← Nat.div_div_eq_div_mul]
  omega
/-- Behind k digits the reader stands one byte further. -/
def ScAt (W wr : World) (b : Nat) (s : ByteArray) (i : Int) : Prop := RdAt wr b s i (-1) ∧ Below b W wr ∧ wr.heap.size = W.heap.size
set_option maxRecDepth 100000 in
set_option maxHeartbeats 8000000 in
theorem nat_scan (s : ByteArray) (u L q : Nat) (hu : 0 < u) (hL : nDigits u = L) (hL16 : L ≤ 16) (hs : s.size ≤ 1000) (hst : Stands s q (bodyOf u)) (hq : q + L < s.size) (he : (s.data.toList.getD (q + L) 0).toNat = 101) (b : Nat) (W : World) (h : RdAt W b s q (-1))
    (tp : TypeId) (pe : Value) (hg : 1 < b) (heof : W.cell? ⟨1, 0, none⟩ = some (.iface tp pe)) :
    Calls Tryz.prog 51 #[.slice none 0 0, .iface 63 (.pointer (some ⟨b, 0, none⟩)), .int .i64 10, .bool false] W fun e w' =>
      (∃ g c, e = .returned (.tuple #[.slice (some ⟨g, 0, none⟩) 1 1, .int .i64 10, .int .i64 c, .nilIface])) ∧ RdAt w' b s ((q + L : Nat) : Int) (-1) ∧ Below b W w' ∧ W.heap.size ≤ w'.heap.size := by
  have hLp : 1 ≤ L := by rw [← hL]; exact nDigits_pos u
  have HB : Hid (∀ k, k < L → (s.data.toList.getD (q + k) 0).toNat = 48 + u / 10 ^ (L - 1 - k) % 10) := Lib.hid fun k hk => by
    rw [hst.2 k (by rw [body_len, hL]; exact hk), body_get u k (by rw [hL]; exact hk), hL]
  have HS : Hid (∀ k, k < L → u / 10 ^ (L - (k + 1)) = u / 10 ^ (L - k) * 10 + u / 10 ^ (L - 1 - k) % 10) := Lib.hid fun k hk => part_step u L k hk
  have HZ : Hid (u / 10 ^ (L - 0) = 0) := Lib.hid (by
    have := lt_pow_nDigits u
    rw [hL] at this
    exact Nat.div_eq_of_lt this)
  have HU : Hid (u / 10 ^ (L - L) = u) := Lib.hid (by rw [Nat.sub_self, Nat.pow_zero, Nat.div_one])
  have HLT : Hid (∀ k, k ≤ L → u / 10 ^ (L - k) < 100000000000000000) := Lib.hid fun k _ => by
    have h1 : u / 10 ^ (L - k) ≤ u := Nat.div_le_self _ _
    have h2 := lt_pow_nDigits u
    rw [hL] at h2
    have h3 : 10 ^ L ≤ 10 ^ 16 := Nat.pow_le_pow_right (by decide) hL16
    have h4 : (10 : Nat) ^ 16 = 10000000000000000 := by decide
    omega
  have HE := Lib.hid he
  have HEOF := Lib.hid (fun (w' : World) (hb : Below b W w') => (hb.cell (p := ⟨1, 0, none⟩) hg).trans heof)
  have c0 : Hid (((s.data.toList.getD (q + 0) 0).toNat : Int) = 48 + ((u / 10 ^ (L - 1 - 0) % 10 : Nat) : Int)) := Lib.hid (by rw [HB.out 0 (by omega)]; omega)
  have HR := Lib.hid (fun (c : Int) (hc : ((s.data.toList.getD (q + 0) 0).toNat : Int) = c) => read_in s q (by omega) hs c hc b (-1) W h)
  have HN := Lib.hid (fun (i : Nat) (hi : i < s.size) (c : Int) (hc : ((s.data.toList.getD i 0).toNat : Int) = c) (w : World) (h : RdAt w b s i (-1)) => read_in s i hi hs c hc b (-1) w h)
  have HV := Lib.hid (fun (w : World) (h : RdAt w b s (((q + L : Nat) : Int) + 1) (-1)) => unread_at s (q + L) (by omega) b (-1) w h)
  have HP := Lib.hid maxpow_ten
  have HQ := Lib.hid pow_any
  have HM := Lib.hid (fun (p : Int) (w : World) => mul_add_nil p u hu w)
  have HO := Lib.hid (fun (g : Nat) (w : World) (h : w.heap[g]? = some (.cells #[.int .u64 u] 79 (0, 0))) => norm_one g u hu w h)
  obtain ⟨d0, hd0⟩ : ∃ d0 : Nat, u / 10 ^ (L - 1 - 0) % 10 = d0 := ⟨_, rfl⟩
  have hd10 : d0 < 10 := by rw [← hd0]; exact Nat.mod_lt _ (by decide)
  rw [hd0] at c0
  have hbW := h.lt
  clear hst he heof h hd0
  go_enter Tryz.func51, Tryz.ntmps51
  go_wp2_with (first
    | (go_at_call 239; refine (HR.out _ c0.out).mono ?_; rintro e w1 ⟨rfl, hr1, hb1, hs1⟩; have HX := Lib.hid (show ScAt W w1 b s ((q : Int) + 1) from ⟨hr1, hb1, hs1⟩); clear hr1 hb1 hs1)
    | (go_at_call 40; refine (HP.out _).mono ?_; rintro e w2 ⟨rfl, rfl⟩))
  go_loopw [0, 3, 10, 11, 13, 14, 15, 20, 21, 22] (fun z fo n er pv is ch wd i dp wr => ∃ (k c pr v : Nat), k ≤ L ∧ z = .slice none 0 0 ∧ fo = .bool false ∧ n = .int .i64 k ∧ er = .nilIface ∧ pv = .int .i32 pr ∧ (pr = 46 ∨ pr = 48) ∧ is = .bool false ∧ ch = .int .u8 c ∧ wd = .int .u64 v ∧ i = .int .i64 k ∧ dp = .int .i64 (-1) ∧ Hid (v = u / 10 ^ (L - k)) ∧ Hid ((s.data.toList.getD (q + k) 0).toNat = c) ∧ Hid (ScAt W wr b s (((q + k : Nat) : Int) + 1))) (fun _ _ n _ _ _ _ _ _ _ _ => L - (RowKit.intOf n).toNat)
  case atStart => exact ⟨0, 48 + d0, 46, 0, Nat.zero_le _, rfl, rfl, rfl, rfl, rfl, Or.inl rfl, rfl, rfl, rfl, rfl, rfl, Lib.hid HZ.out.symm, Lib.hid (by have := c0.out; omega), HX⟩
  case round =>
    obtain ⟨k, c, pr, v, hk, rfl, rfl, rfl, rfl, rfl, hpr, rfl, rfl, rfl, rfl, rfl, HV0, HC, HX2⟩ := hrel
    clear c0 HR HX
    have hv : v < 100000000000000000 := by rw [HV0.out]; exact HLT.out k hk
    by_cases hlt : k < L
    · obtain ⟨d, hd⟩ : ∃ d : Nat, u / 10 ^ (L - 1 - k) % 10 = d := ⟨_, rfl⟩
      have hd10 : d < 10 := by rw [← hd]; exact Nat.mod_lt _ (by decide)
      obtain rfl : c = 48 + d := by rw [← HC.out, HB.out k hlt, hd]
      have HV1 : Hid (v * 10 + d = u / 10 ^ (L - (k + 1))) := Lib.hid (by rw [HS.out k hlt, ← HV0.out, hd])
      obtain ⟨c2, hc2⟩ : ∃ c2 : Nat, (s.data.toList.getD (q + (k + 1)) 0).toNat = c2 := ⟨_, rfl⟩
      have HC2 := Lib.hid hc2
      have HRk := Lib.hid (HN.out (q + (k + 1)) (by omega) (c2 : Int) (by rw [hc2]) wr (by have := HX2.out.1; rw [show (((q + k : Nat) : Int) + 1) = ((q + (k + 1) : Nat) : Int) by omega] at this; exact this))
      clear hd hc2
      rcases hpr with rfl | rfl <;> (
        go_wp2_with (go_at_call 239; refine HRk.out.mono ?_; rintro e w3 ⟨rfl, hr3, hb3, hs3⟩; have HX3 := Lib.hid (show ScAt W w3 b s (((q + (k + 1) : Nat) : Int) + 1) from ⟨hr3, HX2.out.2.1.trans hb3, hs3.trans HX2.out.2.2⟩); clear hr3 hb3 hs3)
        go_roundw
        case rel => exact ⟨k + 1, c2, 48, v * 10 + d, by omega, rfl, rfl, by go_num, rfl, rfl, Or.inr rfl, rfl, rfl, by go_num, by go_num, rfl, HV1, HC2, HX3⟩
        case measure => simp [RowKit.intOf]; omega)
    · obtain rfl : k = L := by omega
      obtain rfl : c = 101 := by rw [← HC.out, HE.out]
      obtain rfl : v = u := by rw [HV0.out, HU.out]
      have hv0 : ((v : Int) == 0) = false := by simp; omega
      rcases hpr with rfl | rfl <;> (
        go_wp2_with (first
          | (go_at_call 240; refine (HV.out _ HX2.out.1).mono ?_; rintro e w4 ⟨rfl, hr4, hb4, hs4⟩; have heo := HEOF.out w4 (HX2.out.2.1.trans hb4); have HX4 := Lib.hid (show RdAt w4 b s ((q + k : Nat) : Int) (-1) ∧ Below b W w4 ∧ w4.heap.size = W.heap.size from ⟨hr4, HX2.out.2.1.trans hb4, hs4.trans HX2.out.2.2⟩); clear hr4 hb4 hs4)
          | (go_at_call 73; refine (HQ.out _ (by omega) _).mono ?_; rintro e w5 ⟨⟨pv, rfl⟩, rfl⟩)
          | (go_at_call 72; refine (HM.out _ _).mono ?_; rintro e w6 ⟨⟨z, rfl, g, rfl, hg6, hc6⟩, hb6⟩; have HC6 := Lib.hid hc6; have HB6 := Lib.hid hb6; clear hc6 hb6)
          | (go_at_call 75; refine (HO.out _ _ HC6.out).mono ?_; rintro e w7 ⟨rfl, rfl⟩))
        go_returns
        refine ⟨⟨g, _, rfl⟩, ?_, HX4.out.2.1.trans (HB6.out.mono ?_), ?_⟩
        · exact (HB6.out.block b HX4.out.1.lt).trans HX4.out.1
        · exact Nat.le_of_lt HX4.out.1.lt
        · rw [← HX4.out.2.2]; exact HB6.out.size)
end Go.Proofs.YtngdcnljbfkneabGreatDoor
