/- The walk of FnArrayToTimeFractionalSecond. -/
import Derived.Test.YtonbnmpleecegaaGreatDoorW39
namespace Go.Proofs.YtonbnmpleecegaaGreatDoor
open Go.RowKit Go.Deep

/-- The instant of the first five fields. -/
def base5 (zs : List Int) : Int := unixZ (zs.getD 0 0) (zs.getD 1 0) (zs.getD 2 0) (zs.getD 3 0) (zs.getD 4 0) 0
theorem base5_bd (zs : List Int) (h : ∀ j, j < 5 → Lim (zs.getD j 0)) : -1000000000000000 ≤ base5 zs ∧ base5 zs ≤ 1000000000000000 := by
  obtain ⟨a0, b0⟩ := h 0 (by decide)
  obtain ⟨a1, b1⟩ := h 1 (by decide)
  obtain ⟨a2, b2⟩ := h 2 (by decide)
  obtain ⟨a3, b3⟩ := h 3 (by decide)
  obtain ⟨a4, b4⟩ := h 4 (by decide)
  unfold base5 unixZ
  have hb := dfcM_bd (zs.getD 0 0 + zs.getD 1 0 / 12) (zs.getD 1 0 % 12 + 1) (by omega) (by omega) (by omega) (by omega)
  generalize DateLaw.dfcM (zs.getD 0 0 + zs.getD 1 0 / 12) (zs.getD 1 0 % 12 + 1) = D at hb ⊢
  omega
def putZ (zs : List Int) (S : Int) : Nat → Int := fun i => if i = 5 then S else zs.getD i 0
theorem unixZ_sec (a b c d e S : Int) : unixZ a b c d e S = unixZ a b c d e 0 + S := by unfold unixZ; omega
set_option maxRecDepth 100000 in
set_option maxHeartbeats 2000000 in
theorem zzSec_short (zs : List Int) (n : Nat) (hn : zs.length = n) (v : Value) (hl : n ≤ 131072) (x : Nat) (h5n : n ≤ 5) (hlim0 : ∀ j, j < 5 → Lim (zs.getD j 0)) (W : World) (hv : Cells.At W v (IntF zs) n) :
    Calls Tryz.prog 9 #[v, .float .f64 x] W fun e w' => e = .returned (.tuple #[.int .i64 (base5 zs), .int .i64 0, .bool false]) ∧ Below W.heap.size W w' := by
  have hlim := Lib.hid hlim0
  have bI := base5_bd zs hlim0
  clear hlim0
  have HN := Lib.hid hn
  have HV := Lib.hid hv
  clear hv hn
  go_enter Tryz.func9, Tryz.ntmps9
  go_wp2_with fail
  refine (ints_any zs n v hl _ HV.out).mono ?_
  rintro e w0 ⟨rfl, hr1, hb1⟩
  have HR1 := Lib.hid hr1
  have HB1 := Lib.hid hb1
  clear hr1 hb1
  go_wp2_with fail
  refine (utc_any _).mono ?_
  rintro e w2 ⟨rfl, hb2, hc2, hz2, hl2⟩
  have HB2 := Lib.hid (HB1.out.trans (hb2.mono HB1.out.size))
  have HR2 := Lib.hid (row_at (c := n) (Cells.rowIs_later HR1.out hb2))
  have HC2 := Lib.hid hc2
  have HZ2 := Lib.hid hz2
  clear hb2 hc2 hz2
  go_wp2_with fail
  have V : ∀ j, j < 8 → vl (fun i => zs.getD i 0) n j = zs.getD j 0 := fun j hj => vl_get zs n n j HN.out (Or.inl rfl) hj
  have z5 : zs.getD 5 0 = 0 := getD_out zs n 5 HN.out (by omega)
  have hat := att_ok (anyF zs) (fun i => zs.getD i 0) 0 n n (Nat.le_refl _) (by omega) (Or.inl rfl) (fun j hj _ => rfl) (fun h => absurd h (by omega)) (by decide)
    (fun j hj => by
      rw [V j (by omega)]
      by_cases e : j = 5
      · rw [e, z5]; decide
      · have := hlim.out j (by omega); unfold Lim at this; omega) _ _ w2 HR2.out HC2.out HZ2.out hl2
  rw [V 0 (by decide), V 1 (by decide), V 2 (by decide), V 3 (by decide), V 4 (by decide), V 5 (by decide), z5, show nsl 0 n = 0 from by unfold nsl; rw [if_neg (by omega)]] at hat
  obtain ⟨I, hI⟩ : ∃ I, base5 zs = I := ⟨_, rfl⟩
  rw [show unixZ (zs.getD 0 0) (zs.getD 1 0) (zs.getD 2 0) (zs.getD 3 0) (zs.getD 4 0) 0 = I from hI] at hat
  rw [hI] at bI
  have HI := Lib.hid hI
  obtain ⟨bI1, bI2⟩ := bI
  clear hI V z5
  refine hat.mono ?_
  clear hat
  rintro e w3 ⟨rfl, hb3⟩
  have HB3 := Lib.hid (HB2.out.trans (hb3.mono HB2.out.size))
  clear hb3
  have HTU : Hid (∀ w, Calls Tryz.prog 21 #[.agg #[.int .u64 0, .int .i64 (I + 62135596800), .pointer none]] w fun e w' => e = .returned (.int .i64 I) ∧ Below w.heap.size w w') := Lib.hid fun w => by
    have := tUnix 0 (I + 62135596800) (by decide) (by omega) (by omega) w
    rw [show I + 62135596800 - 62135596800 = I from by omega] at this
    exact this
  have HTN : Hid (∀ w, Calls Tryz.prog 22 #[.agg #[.int .u64 0, .int .i64 (I + 62135596800), .pointer none]] w fun e w' => e = .returned (.int .i64 0) ∧ Below w.heap.size w w') := Lib.hid fun w => tNano 0 (I + 62135596800) (by decide) w
  go_wp2_with fail
  have cr := cell_rg
  refine wp_region_quiet_below (by kernel_rfl) (by kernel_rfl) ?_
  repeat (quiet_step (first | (go_at_call 21; exact Calls.regrown_of (HTU.out _)) | (go_at_call 22; exact Calls.regrown_of (HTN.out _))))
  refine wpQuiet_nil ?_
  intro _ hw'
  obtain ⟨⟨dq, osq⟩, hw''⟩ := hw'
  subst hw''
  go_wp2
  go_ret3
  exact ⟨by rw [HI.out]; rfl, (HB3.out.alloc HB3.out.size _).trans ((below_regrown _ dq osq).mono (by have := HB3.out.size; simp; omega))⟩
set_option maxRecDepth 100000 in
set_option maxHeartbeats 2000000 in
theorem zzSec_long (zs : List Int) (n : Nat) (hn : zs.length = n) (v : Value) (hl : n ≤ 131072) (x : Nat) (S : Int) (M : Nat) (hM : M < 1000000000) (hS : -1900000 ≤ S ∧ S ≤ 1900000) (hs0 : SecOk (.iface 25 (.float .f64 x)) S M) (h5n : 5 < n) (hlim0 : ∀ j, j < 5 → Lim (zs.getD j 0)) (W : World) (hv : Cells.At W v (IntF zs) n) :
    Calls Tryz.prog 9 #[v, .float .f64 x] W fun e w' => e = .returned (.tuple #[.int .i64 (base5 zs + S), .int .i64 M, .bool false]) ∧ Below W.heap.size W w' := by
  have hlim := Lib.hid hlim0
  have bI := base5_bd zs hlim0
  clear hlim0
  have HS0 := Lib.hid hs0
  clear hs0
  have HN := Lib.hid hn
  have HV := Lib.hid hv
  clear hv hn
  go_enter Tryz.func9, Tryz.ntmps9
  go_wp2_with fail
  refine (ints_any zs n v hl _ HV.out).mono ?_
  rintro e w0 ⟨rfl, hr1, hb1⟩
  have hco := hr1.cell h5n
  have hfo := hr1.frozen 5
  replace hr1 := row_put hr1 5 (.iface 25 (.float .f64 x))
  replace hb1 := hb1.setCell (p := ⟨W.heap.size, 5, none⟩) (Nat.le_refl _) (.iface 25 (.float .f64 x))
  have h5i : (5 : Int) < (n : Int) := by omega
  have HR1 := Lib.hid hr1
  have HB1 := Lib.hid hb1
  clear hr1 hb1
  go_wp2_with fail
  refine (utc_any _).mono ?_
  rintro e w2 ⟨rfl, hb2, hc2, hz2, hl2⟩
  have HB2 := Lib.hid (HB1.out.trans (hb2.mono HB1.out.size))
  have HR2 := Lib.hid (row_at (c := n) (Cells.rowIs_later HR1.out hb2))
  have HC2 := Lib.hid hc2
  have HZ2 := Lib.hid hz2
  clear hb2 hc2 hz2
  go_wp2_with fail
  obtain ⟨m, hm⟩ : ∃ m, m = (if n < 8 then n else 8) := ⟨_, rfl⟩
  have hm1 : m ≤ n ∧ m ≤ 8 ∧ (m = n ∨ m = 8) ∧ 5 < m := by rw [hm]; split <;> omega
  obtain ⟨hm1, hm2, hm3, hm5⟩ := hm1
  have hsz : (w0.setCell ⟨W.heap.size, 5, none⟩ (.iface 25 (.float .f64 x))).heap.size = w0.heap.size := by simp
  have hc3 := HC2.out
  have hz3 := HZ2.out
  rw [hsz] at hc3 hz3 hl2
  have V : ∀ j, j < 6 → vl (putZ zs S) m j = if j = 5 then S else zs.getD j 0 := fun j hj => by unfold vl putZ; rw [if_pos (by omega)]
  have hat := att_ok (putF (anyF zs) 5 (.iface 25 (.float .f64 x))) (putZ zs S) M n m hm1 hm2 hm3 (fun j hj h5 => by unfold putF putZ; rw [if_neg h5, if_neg h5]; rfl) (fun h => HS0.out) hM
    (fun j hj => by
      rw [V j hj]
      by_cases e : j = 5
      · rw [if_pos e]; exact hS
      · rw [if_neg e]; have := hlim.out j (by omega); unfold Lim at this; omega) _ _ w2 HR2.out hc3 hz3 hl2
  have V' : ∀ j, j < 5 → vl (putZ zs S) m j = zs.getD j 0 := fun j hj => by rw [V j (by omega), if_neg (by omega)]
  have V5 : vl (putZ zs S) m 5 = S := by rw [V 5 (by decide), if_pos rfl]
  rw [V' 0 (by decide), V' 1 (by decide), V' 2 (by decide), V' 3 (by decide), V' 4 (by decide), V5, unixZ_sec, show nsl M m = M from by unfold nsl; rw [if_pos hm5]] at hat
  obtain ⟨I, hI⟩ : ∃ I, base5 zs + S = I := ⟨_, rfl⟩
  rw [show unixZ (zs.getD 0 0) (zs.getD 1 0) (zs.getD 2 0) (zs.getD 3 0) (zs.getD 4 0) 0 + S = I from hI] at hat
  have bI1 : -1000000000000000 - 1900000 ≤ I := by omega
  have bI2 : I ≤ 1000000000000000 + 1900000 := by omega
  have HI := Lib.hid hI
  clear hI V V' V5 bI hm3 hm hc3 hz3 hsz
  refine hat.mono ?_
  clear hat
  rintro e w3 ⟨rfl, hb3⟩
  have HB3 := Lib.hid (HB2.out.trans (hb3.mono HB2.out.size))
  clear hb3
  have HTU : Hid (∀ w, Calls Tryz.prog 21 #[.agg #[.int .u64 M, .int .i64 (I + 62135596800), .pointer none]] w fun e w' => e = .returned (.int .i64 I) ∧ Below w.heap.size w w') := Lib.hid fun w => by
    have := tUnix M (I + 62135596800) hM (by omega) (by omega) w
    rw [show I + 62135596800 - 62135596800 = I from by omega] at this
    exact this
  have HTN : Hid (∀ w, Calls Tryz.prog 22 #[.agg #[.int .u64 M, .int .i64 (I + 62135596800), .pointer none]] w fun e w' => e = .returned (.int .i64 M) ∧ Below w.heap.size w w') := Lib.hid fun w => tNano M (I + 62135596800) hM w
  go_wp2_with fail
  have cr := cell_rg
  refine wp_region_quiet_below (by kernel_rfl) (by kernel_rfl) ?_
  repeat (quiet_step (first | (go_at_call 21; exact Calls.regrown_of (HTU.out _)) | (go_at_call 22; exact Calls.regrown_of (HTN.out _))))
  refine wpQuiet_nil ?_
  intro _ hw'
  obtain ⟨⟨dq, osq⟩, hw''⟩ := hw'
  subst hw''
  go_wp2
  go_ret3
  exact ⟨by rw [HI.out]; rfl, (HB3.out.alloc HB3.out.size _).trans ((below_regrown _ dq osq).mono (by have := HB3.out.size; simp; omega))⟩
theorem zzbF_any (n cap : Nat) (a : Option Addr) (s k : Int) (h : n ≤ 1048576) (w : World) : Calls Tryz.prog 6 #[.slice a n cap, .int .i64 s, .int .i64 k] w fun e w' => e = .returned (.bool true) ∧ w = w' := by
  go_enter Tryz.func6, Tryz.ntmps6
  go_wp2
  go_ret
  exact ⟨rfl, rfl⟩
theorem zzbF_big (n cap : Nat) (a : Option Addr) (s k : Int) (h : 1048576 < n) (w : World) : Calls Tryz.prog 6 #[.slice a n cap, .int .i64 s, .int .i64 k] w fun e w' => e = .returned (.bool false) ∧ w = w' := by
  go_enter Tryz.func6, Tryz.ntmps6
  go_wp2
  go_ret
  exact ⟨rfl, rfl⟩
set_option maxRecDepth 100000 in
set_option maxHeartbeats 4000000 in
theorem walk_FnArrayToTimeFractionalSecond (W : World) (v : Value) (zs : List Int) (hv0 : IntArg W v zs) (hz : ∀ z ∈ zs, (Lit.int .i64 z).wf = true) (s : Int) (_ws : (Lit.int .i64 s).wf = true) (k : Int) (_wk : (Lit.int .i64 k).wf = true) :
    Calls Tryz.prog 3 #[v, .int .i64 s, .int .i64 k] W fun e w' => e = .returned (.bool true) ∧ Below W.heap.size W w' := by
  obtain ⟨n, hn⟩ : ∃ n, zs.length = n := ⟨_, rfl⟩
  have hv := at_intArg hv0
  rw [hn] at hv
  have HZS := Lib.hid hz
  have HN := Lib.hid hn
  clear hv0 hz hn
  have HV := Lib.hid hv
  obtain ⟨a, cap, rfl, hcc⟩ := hv
  clear hcc
  by_cases c1 : 1048576 < n
  · go_enter Tryz.func3, Tryz.ntmps3
    go_wp2_with (go_at_call 6; refine (zzbF_big n cap a _ _ c1 _).mono ?_; rintro e w' ⟨rfl, rfl⟩)
    go_ret
    exact ⟨rfl, Below.refl _ _⟩
  have hm : n ≤ 1048576 := by omega
  by_cases c2 : 65536 < n
  · go_enter Tryz.func3, Tryz.ntmps3
    go_wp2_with (go_at_call 6; refine (zzbF_any n cap a _ _ hm _).mono ?_; rintro e w' ⟨rfl, rfl⟩)
    go_ret
    exact ⟨rfl, Below.refl _ _⟩
  by_cases g1 : s < -1048576
  · go_enter Tryz.func3, Tryz.ntmps3
    go_wp2_with (go_at_call 6; refine (zzbF_any n cap a _ _ hm _).mono ?_; rintro e w' ⟨rfl, rfl⟩)
    go_ret
    exact ⟨rfl, Below.refl _ _⟩
  by_cases g2 : 1048576 < s
  · go_enter Tryz.func3, Tryz.ntmps3
    go_wp2_with (go_at_call 6; refine (zzbF_any n cap a _ _ hm _).mono ?_; rintro e w' ⟨rfl, rfl⟩)
    go_ret
    exact ⟨rfl, Below.refl _ _⟩
  by_cases g3 : k < 0
  · go_enter Tryz.func3, Tryz.ntmps3
    go_wp2_with (go_at_call 6; refine (zzbF_any n cap a _ _ hm _).mono ?_; rintro e w' ⟨rfl, rfl⟩)
    go_ret
    exact ⟨rfl, Below.refl _ _⟩
  by_cases g4 : 1023 < k
  · go_enter Tryz.func3, Tryz.ntmps3
    go_wp2_with (go_at_call 6; refine (zzbF_any n cap a _ _ hm _).mono ?_; rintro e w' ⟨rfl, rfl⟩)
    go_ret
    exact ⟨rfl, Below.refl _ _⟩
  have hnb : n ≤ 131072 := by omega
  have hfi : ∀ w, Cells.At w (.slice a n cap) (IntF zs) n → Calls Tryz.prog 7 #[.slice a n cap, .int .i64 5, .int .i64 1048576] w fun e w' => e = .returned (.bool (fieldsOk zs 5)) ∧ w = w' := fun w hv => fieldsIn_any zs n HN.out 5 (by decide) _ w HZS.out hm hv
  cases hok : fieldsOk zs 5 with
  | false =>
    rw [hok] at hfi
    have HFI := Lib.hid hfi
    clear hfi hok
    go_enter Tryz.func3, Tryz.ntmps3
    go_wp2_with (first | (go_at_call 6; refine (zzbF_any n cap a _ _ hm _).mono ?_; rintro e w' ⟨rfl, rfl⟩) | (go_at_call 7; refine (HFI.out _ HV.out).mono ?_; rintro e w' ⟨rfl, rfl⟩))
    go_ret
    exact ⟨rfl, Below.refl _ _⟩
  | true =>
    rw [hok] at hfi
    have HFI := Lib.hid hfi
    have HLIM : Hid (∀ j, j < 5 → Lim (zs.getD j 0)) := Lib.hid fun j hj => fieldsOk_mem hok hj
    clear hfi hok
    have HMO : Hid (∀ w v, Cells.At w v (IntF zs) n → Calls Tryz.prog 10 #[v, .bool false] w fun e w' => e = .returned (.int .i64 (base5 zs)) ∧ w = w') := Lib.hid fun w v hv => by
      have hl0 := HLIM.out 0 (by decide)
      have hl1 := HLIM.out 1 (by decide)
      have hl2 := HLIM.out 2 (by decide)
      have hl3 := HLIM.out 3 (by decide)
      have hl4 := HLIM.out 4 (by decide)
      exact model_min zs n HN.out v w hv _ _ _ _ _ rfl rfl rfl rfl rfl (by unfold Lim at hl0; omega) (by unfold Lim at hl1; omega) (by unfold Lim at hl2; omega) (by unfold Lim at hl3; omega) (by unfold Lim at hl4; omega)
    have bI := base5_bd zs HLIM.out
    obtain ⟨K, rfl⟩ : ∃ K : Nat, k = K := ⟨k.toNat, by omega⟩
    obtain ⟨S, hS⟩ : ∃ S : Int, (s < 0 ∧ 0 < K ∧ S = s + 1) ∨ ((0 ≤ s ∨ K = 0) ∧ S = s) := by
      by_cases c : s < 0 ∧ 0 < K
      · exact ⟨s + 1, Or.inl ⟨c.1, c.2, rfl⟩⟩
      · exact ⟨s, Or.inr ⟨by omega, rfl⟩⟩
    obtain ⟨u, x, hu, hx, hsec⟩ := secOk_frac s K (by omega) (by omega) (by omega) S hS
    have k1 := fun w => run_float_arith (P := Tryz.prog) w .quo 25 .f64 (floatOfInt .f64 (K : Int)) 4652218415073722368 u hu
    have k2 := fun w => run_float_arith (P := Tryz.prog) w .add 25 .f64 (floatOfInt .f64 s) u x hx
    clear hu hx
    by_cases h5 : n ≤ 5
    · have hzz := fun w v hv => zzSec_short zs n HN.out v hnb x h5 HLIM.out w hv
      obtain ⟨I, hI⟩ : ∃ I, base5 zs = I := ⟨_, rfl⟩
      rw [hI] at hzz HMO bI
      have HZZ := Lib.hid hzz
      have h6 : (n : Int) < 6 := by omega
      clear hzz hS hsec hI bI
      go_enter Tryz.func3, Tryz.ntmps3
      go_wp2_with (first | (go_at_call 6; refine (zzbF_any n cap a _ _ hm _).mono ?_; rintro e w' ⟨rfl, rfl⟩) | (go_at_call 7; refine (HFI.out _ HV.out).mono ?_; rintro e w' ⟨rfl, rfl⟩))
      refine (copy_any zs n _ hnb _ HV.out).mono ?_
      rintro e w0 ⟨⟨v0, rfl, hv0⟩, hb0⟩
      have HV0 := Lib.hid hv0
      have HB0 := Lib.hid hb0
      obtain ⟨a0, cap0, rfl, _⟩ := hv0
      clear hb0
      go_wp2_with fail
      refine (HZZ.out _ _ HV0.out).mono ?_
      rintro e w1 ⟨rfl, hb1⟩
      have HB1 := Lib.hid (HB0.out.trans (hb1.mono HB0.out.size))
      have HV1 := Lib.hid (HV0.out.later hb1)
      clear hb1
      go_wp2_with (go_at_call 10; with_reducible refine (HMO.out _ _ HV1.out).mono ?_; rintro e w' ⟨rfl, rfl⟩)
      go_ret
      exact ⟨rfl, HB1.out⟩
    · have hzz := fun w v hv => zzSec_long zs n HN.out v hnb x S (K * 1000000000 / 1024) (by omega) (by omega) hsec (by omega) HLIM.out w hv
      obtain ⟨I, hI⟩ : ∃ I, base5 zs = I := ⟨_, rfl⟩
      rw [hI, show ((K * 1000000000 / 1024 : Nat) : Int) = (K : Int) * 1953125 / 2 from by omega] at hzz
      rw [hI] at HMO bI
      have HZZ := Lib.hid hzz
      have h6 : ¬ ((n : Int) < 6) := by omega
      have bI1 := bI.1
      have bI2 := bI.2
      clear hzz hsec hI bI
      rcases hS with ⟨s1, s2, rfl⟩ | ⟨s1, rfl⟩
      · have s3 : (0 : Int) < (K : Int) := by omega
        go_enter Tryz.func3, Tryz.ntmps3
        go_wp2_with (first | (go_at_call 6; refine (zzbF_any n cap a _ _ hm _).mono ?_; rintro e w' ⟨rfl, rfl⟩) | (go_at_call 7; refine (HFI.out _ HV.out).mono ?_; rintro e w' ⟨rfl, rfl⟩))
        refine (copy_any zs n _ hnb _ HV.out).mono ?_
        rintro e w0 ⟨⟨v0, rfl, hv0⟩, hb0⟩
        have HV0 := Lib.hid hv0
        have HB0 := Lib.hid hb0
        obtain ⟨a0, cap0, rfl, _⟩ := hv0
        clear hb0
        go_wp2_with fail
        refine (HZZ.out _ _ HV0.out).mono ?_
        rintro e w1 ⟨rfl, hb1⟩
        have HB1 := Lib.hid (HB0.out.trans (hb1.mono HB0.out.size))
        have HV1 := Lib.hid (HV0.out.later hb1)
        clear hb1
        go_wp2_with (go_at_call 10; with_reducible refine (HMO.out _ _ HV1.out).mono ?_; rintro e w' ⟨rfl, rfl⟩)
        go_ret
        exact ⟨rfl, HB1.out⟩
      · by_cases s0 : S < 0
        · have s3 : ¬ ((0 : Int) < (K : Int)) := by omega
          clear s1
          go_enter Tryz.func3, Tryz.ntmps3
          go_wp2_with (first | (go_at_call 6; refine (zzbF_any n cap a _ _ hm _).mono ?_; rintro e w' ⟨rfl, rfl⟩) | (go_at_call 7; refine (HFI.out _ HV.out).mono ?_; rintro e w' ⟨rfl, rfl⟩))
          refine (copy_any zs n _ hnb _ HV.out).mono ?_
          rintro e w0 ⟨⟨v0, rfl, hv0⟩, hb0⟩
          have HV0 := Lib.hid hv0
          have HB0 := Lib.hid hb0
          obtain ⟨a0, cap0, rfl, _⟩ := hv0
          clear hb0
          go_wp2_with fail
          refine (HZZ.out _ _ HV0.out).mono ?_
          rintro e w1 ⟨rfl, hb1⟩
          have HB1 := Lib.hid (HB0.out.trans (hb1.mono HB0.out.size))
          have HV1 := Lib.hid (HV0.out.later hb1)
          clear hb1
          go_wp2_with (go_at_call 10; with_reducible refine (HMO.out _ _ HV1.out).mono ?_; rintro e w' ⟨rfl, rfl⟩)
          go_ret
          exact ⟨rfl, HB1.out⟩
        · clear s1
          go_enter Tryz.func3, Tryz.ntmps3
          go_wp2_with (first | (go_at_call 6; refine (zzbF_any n cap a _ _ hm _).mono ?_; rintro e w' ⟨rfl, rfl⟩) | (go_at_call 7; refine (HFI.out _ HV.out).mono ?_; rintro e w' ⟨rfl, rfl⟩))
          refine (copy_any zs n _ hnb _ HV.out).mono ?_
          rintro e w0 ⟨⟨v0, rfl, hv0⟩, hb0⟩
          have HV0 := Lib.hid hv0
          have HB0 := Lib.hid hb0
          obtain ⟨a0, cap0, rfl, _⟩ := hv0
          clear hb0
          go_wp2_with fail
          refine (HZZ.out _ _ HV0.out).mono ?_
          rintro e w1 ⟨rfl, hb1⟩
          have HB1 := Lib.hid (HB0.out.trans (hb1.mono HB0.out.size))
          have HV1 := Lib.hid (HV0.out.later hb1)
          clear hb1
          go_wp2_with (go_at_call 10; with_reducible refine (HMO.out _ _ HV1.out).mono ?_; rintro e w' ⟨rfl, rfl⟩)
          go_ret
          exact ⟨rfl, HB1.out⟩
end Go.Proofs.YtonbnmpleecegaaGreatDoor
