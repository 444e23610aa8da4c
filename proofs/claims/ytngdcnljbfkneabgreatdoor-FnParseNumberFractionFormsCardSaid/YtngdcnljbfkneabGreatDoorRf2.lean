/- Contracts: readFloat of strconv at decimal texts. -/
import Derived.Test.YtngdcnljbfkneabGreatDoorReadF
namespace Go.Proofs.YtngdcnljbfkneabGreatDoor
open Go.RowKit Go.Dec

set_option maxRecDepth 100000 in
set_option maxHeartbeats 8000000 in
theorem rf_mnen (s : ByteArray) (body : List Nat) (hs : s.size = 1 + body.length + 0) (hb : Stands s 1 body) (hm : (s.data.toList.getD 0 0).toNat = 45) (hok : RfOk body) (hl : 0 < body.length) (hbig : body.length ≤ 40) (h0 : body.getD 0 0 ≠ 48) (M ND : Nat) (D : Bool) (DP : Int) (hR : rfAt body body.length = ⟨M, ND, D, true, DP⟩) (hM : M ≠ 0) (E : Int) (hE : (if D then DP else (ND : Int)) + 0 - ND = E) (w : World) :
    Calls Tryz.prog 93 #[.string s] w fun e w' => e = .returned (.tuple #[.int .u64 M, .int .i64 E, .bool true, .bool false, .bool false, .int .i64 s.size, .bool true]) ∧ w = w' := by
  obtain ⟨L, hL⟩ : ∃ L, L = body.length := ⟨_, rfl⟩
  obtain ⟨Z, hZ⟩ : ∃ Z : Int, Z = s.size := ⟨_, rfl⟩
  obtain ⟨c0, hc0⟩ : ∃ c0 : Int, c0 = (body.getD 0 0 : Nat) := ⟨_, rfl⟩
  have hbd := rf_bd body hok
  obtain ⟨O1, O2, O3⟩ := or32
  have k0 : 46 ≤ c0 ∧ c0 ≤ 57 := by rcases hok 0 hl with ⟨q, _⟩ | ⟨q1, q2, _⟩ <;> omega
  have k1 : 46 ≤ c0 := k0.1
  have k2 : c0 ≤ 57 := k0.2
  have t48 : (c0 == 48) = false := by simp; omega
  have t43 : (c0 == 43) = false := by simp; omega
  have t45 : (c0 == 45) = false := by simp; omega
  have im := fun (w : World) => idx_at s 0 0 45 rfl (by omega) (by rw [hm]; rfl) w
  have i0 := fun (w : World) => idx_at s 1 1 c0 rfl (by omega) (by rw [hc0]; have := hb.2 0 hl; rw [Nat.add_zero] at this; rw [this]) w
  obtain ⟨T0, hT0⟩ : ∃ T : Int, T = ((1 + body.length + 0 : Nat) : Int) := ⟨_, rfl⟩
  have zT : T0 = Z := by omega
  have z1 : (1 : Int) < Z := by omega
  have zb : Z ≤ 1000 := by omega
  have M0 : ((M : Int) != 0) = true := by simp; omega
  have z0 : (0 : Int) < Z := by omega
  have H1 := Lib.hid hc0
  have H2 := Lib.hid hok
  have H3 := Lib.hid hb
  have H4 := Lib.hid hR
  have H5 := Lib.hid hL
  have H6 := Lib.hid hs
  have H7 := Lib.hid hZ
  have H8 := Lib.hid hbd
  have HT := Lib.hid hT0
  have HMM := Lib.hid hM
  have HE := Lib.hid hE
  clear hc0 hok hb hR hL hs h0 k0 hbd hM hbig hl hT0 hm hE
  rw [← hZ]
  have hZ' : (s.size : Int) = Z := hZ.symm
  clear hZ
  subst zT
  go_enter Tryz.func93, Tryz.ntmps93
  go_wp2_with (go_at_call 65; refine (lower_any _ _).mono ?_; rintro e w' ⟨rfl, rfl⟩)
  go_step3
  go_wp2_with (go_at_call 65; refine (lower_any _ _).mono ?_; rintro e w' ⟨rfl, rfl⟩)
  all_goals try go_step3
  go_wp2_with (go_at_call 65; refine (lower_any _ _).mono ?_; rintro e w' ⟨rfl, rfl⟩)
  all_goals (
    go_loopw [2, 5, 7, 9, 13, 14, 15, 16, 17] (fun v2 v5 v7 v9 v13 v14 v15 v16 v17 wr => ∃ (j : Nat) (m I nd dp : Int) (dt dg : Bool), v2 = .int .u64 m ∧ v5 = .bool false ∧ v7 = .int .i64 I ∧ v9 = .bool false ∧ v13 = .bool dt ∧ v14 = .bool dg ∧ v15 = .int .i64 nd ∧ v16 = .int .i64 nd ∧ v17 = .int .i64 dp ∧ wr = w ∧
      Hid (j ≤ L ∧ I = ((1 + j : Nat) : Int) ∧ 0 ≤ m ∧ 0 ≤ nd ∧ rfAt body j = ⟨m.toNat, nd.toNat, dt, dg, dp⟩)) (fun _ _ v7 _ _ _ _ _ _ _ => 1 + L - (intOf v7).toNat)
    case atStart => exact ⟨0, 0, 1, 0, 0, false, false, rfl, rfl, rfl, rfl, rfl, rfl, rfl, rfl, rfl, rfl, Lib.hid ⟨Nat.zero_le _, rfl, by decide, by decide, by unfold rfAt; simp; rfl⟩⟩
    case round =>
      obtain ⟨j, m, I, nd, dp, dt, dg, rfl, rfl, rfl, rfl, rfl, rfl, rfl, rfl, rfl, rfl, H⟩ := hrel
      have hbj := H8.out j (by have := H.out.1; have := H5.out; omega)
      rw [H.out.2.2.2.2] at hbj
      obtain ⟨bd1, bd2, bd3, bd4⟩ := hbj
      simp only at bd1 bd2 bd3 bd4
      have hjL := H.out.1
      have d2 : -1000 ≤ dp := by have := H5.out; have := H3.out.1; have := H6.out; have := H7.out; omega
      have d3 : dp ≤ 19 := bd3
      have b0 : 0 ≤ I := by have := H.out.2.1; omega
      have bn0 : 0 ≤ nd := H.out.2.2.2.1
      have bn1 : nd ≤ 19 := by omega
      have bm0 : 0 ≤ m := H.out.2.2.1
      have bm1 : m < 10000000000000000000 := by omega
      clear bd1 bd2 bd3 bd4
      by_cases hlt : I < T0
      · obtain ⟨qj, qI, qm, qn, qr⟩ := H.out
        have e7 := H7.out
        have e6 := H6.out
        have e5 := H5.out
        have eT := HT.out
        have hj : j < body.length := by omega
        have hIZ : I < T0 := by omega
        obtain ⟨c, hc⟩ : ∃ c : Int, c = (body.getD j 0 : Nat) := ⟨_, rfl⟩
        have ij := fun (w : World) => idx_at s I (1 + j) c qI (by omega) (by rw [hc]; have := H3.out.2 j hj; rw [this]) w
        have hs := rfAt_succ body j hj
        have ho := H2.out j hj
        rw [qr] at hs ho
        rcases ho with ⟨o1, o2⟩ | ⟨o1, o2, o3, o4⟩
        · simp only at o2
          subst o2
          obtain rfl : c = 46 := by omega
          have R : Hid (j + 1 ≤ L ∧ I + 1 = ((1 + (j + 1) : Nat) : Int) ∧ 0 ≤ m ∧ 0 ≤ nd ∧ rfAt body (j + 1) = ⟨m.toNat, nd.toNat, true, dg, nd⟩) := Lib.hid ⟨by omega, by omega, qm, qn, by rw [hs]; unfold rfStep; rw [if_pos o1]; simp; omega⟩
          have ML : Hid (1 + L - (I + 1).toNat < 1 + L - I.toNat) := Lib.hid (by omega)
          clear hs qr hc o1 qj qI e7 e6 e5 eT hj hlt
          go_wp2
          go_roundw
          case rel => exact ⟨j + 1, m, I + 1, nd, nd, true, dg, by repeat' (first | exact R | exact rfl | exact trivial | apply And.intro)⟩
          case measure => simp [intOf]; have h := ML.out; omega
        · have ML : Hid (1 + L - (I + 1).toNat < 1 + L - I.toNat) := Lib.hid (by omega)
          have m1 : m < 1000000000000000000 := by simp only at o4; omega
          have n1 : nd < 19 := by simp only at o3; omega
          have c1 : 48 ≤ c := by omega
          have c2 : c ≤ 57 := by omega
          have t95 : (c == 95) = false := by simp; omega
          have t46 : (c == 46) = false := by simp; omega
          by_cases z : c = 48 ∧ nd = 0
          · obtain ⟨rfl, rfl⟩ := z
            have R : Hid (j + 1 ≤ L ∧ I + 1 = ((1 + (j + 1) : Nat) : Int) ∧ 0 ≤ m ∧ (0 : Int) ≤ 0 ∧ rfAt body (j + 1) = ⟨m.toNat, (0 : Int).toNat, dt, true, dp - 1⟩) := Lib.hid ⟨by omega, by omega, qm, qn, by rw [hs]; unfold rfStep; rw [if_neg (by omega), if_pos ⟨by omega, rfl⟩]⟩
            clear hs qr hc o1 o2 o3 o4 qj qI e7 e6 e5 eT hj hlt
            go_wp2
            go_roundw
            case rel => exact ⟨j + 1, m, I + 1, 0, dp - 1, dt, true, by repeat' (first | exact R | exact rfl | exact trivial | apply And.intro)⟩
            case measure => simp [intOf]; have h := ML.out; omega
          · have tz : (decide (c = 48) && decide (nd = 0)) = false := by simp; omega
            have zc : ¬ (body.getD j 0 = 48 ∧ nd.toNat = 0) := by omega
            have R : Hid (j + 1 ≤ L ∧ I + 1 = ((1 + (j + 1) : Nat) : Int) ∧ 0 ≤ m * 10 + (c - 48) ∧ 0 ≤ nd + 1 ∧ rfAt body (j + 1) = ⟨(m * 10 + (c - 48)).toNat, (nd + 1).toNat, dt, true, dp⟩) := Lib.hid ⟨by omega, by omega, by omega, by omega, by rw [hs]; unfold rfStep; rw [if_neg (by omega), if_neg zc]; simp only [RF.mk.injEq, and_true]; omega⟩
            clear hs qr hc o1 o2 o3 o4 qj qI e7 e6 e5 eT hj hlt
            by_cases z2 : c = 48
            · subst z2
              have tn : (nd == 0) = false := by simp; omega
              clear z tz
              go_wp2
              go_roundw
              case rel => exact ⟨j + 1, m * 10 + (48 - 48), I + 1, nd + 1, dp, dt, true, by repeat' (first | exact R | exact rfl | exact trivial | go_num | apply And.intro)⟩
              case measure => simp [intOf]; have h := ML.out; omega
            · have t48 : (c == 48) = false := by simpa using z2
              clear z tz
              go_wp2
              go_roundw
              case rel => exact ⟨j + 1, m * 10 + (c - 48), I + 1, nd + 1, dp, dt, true, by repeat' (first | exact R | exact rfl | exact trivial | go_num | apply And.intro)⟩
              case measure => simp [intOf]; have h := ML.out; omega
      · obtain ⟨qj, qI, qm, qn, qr⟩ := H.out
        have e7 := H7.out
        have e6 := H6.out
        have e5 := H5.out
        have eT := HT.out
        have hj : j = body.length := by omega
        have h4 := H4.out
        rw [← hj, qr] at h4
        simp only [RF.mk.injEq] at h4
        obtain ⟨g1, g2, rfl, rfl, rfl⟩ := h4
        obtain rfl : m = (M : Int) := by omega
        obtain rfl : nd = (ND : Int) := by omega
        obtain rfl : I = T0 := by omega
        have b6 : ND ≤ 19 := by omega
        clear qr g1 g2 hj qj qI e7 e6 e5 eT H hlt
        cases dt
        · go_wp2
          all_goals (try rw [Exit.noGoto_ret])
          all_goals (show bodyPost _ _ _ Exit.ret _ _)
          all_goals go_returns
          all_goals exact ⟨ret_rf (by first | rfl | (have h := HE.out; simp at h; omega)), rfl⟩
        · go_wp2
          all_goals (try rw [Exit.noGoto_ret])
          all_goals (show bodyPost _ _ _ Exit.ret _ _)
          all_goals go_returns
          all_goals exact ⟨ret_rf (by first | rfl | (have h := HE.out; simp at h; omega)), rfl⟩)
end Go.Proofs.YtngdcnljbfkneabGreatDoor
