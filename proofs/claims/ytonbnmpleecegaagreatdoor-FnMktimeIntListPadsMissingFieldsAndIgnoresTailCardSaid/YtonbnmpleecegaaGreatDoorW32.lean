/- The walk of FnMktimeIntListPadsMissingFieldsAndIgnoresTail. -/
import Derived.Test.YtonbnmpleecegaaGreatDoorSec
import Derived.Test.YtonbnmpleecegaaGreatDoorL32
namespace Go.Proofs.YtonbnmpleecegaaGreatDoor
open Go.RowKit Go.Deep

def anyF (zs : List Int) : Nat → Value := fun j => .iface 3 (IntF zs j)
theorem row_at {w : World} {B : Nat} {T : TypeId} {n c : Nat} {F : Nat → Value} (h : w.rowIs B T n F) : Cells.At w (.slice (some ⟨B, 0, none⟩) n c) F n :=
  ⟨_, c, rfl, fun _ => ⟨B, 0, rfl, h.lt, fun i hi => by rw [Nat.zero_add]; exact h.cell hi⟩⟩
theorem getD_out (zs : List Int) (n i : Nat) (hn : zs.length = n) (h : ¬ i < n) : zs.getD i 0 = 0 := by
  rw [List.getD_eq_getElem?_getD, List.getElem?_eq_none (by omega)]; rfl
theorem vl_get (zs : List Int) (n m j : Nat) (hn : zs.length = n) (hm : m = n ∨ m = 8) (hj : j < 8) : vl (fun i => zs.getD i 0) m j = zs.getD j 0 := by
  unfold vl
  by_cases c : j < m
  · rw [if_pos c]
  · rw [if_neg c, getD_out zs n j hn (by omega)]
def inst (zs : List Int) : Int := unixZ (zs.getD 0 0) (zs.getD 1 0) (zs.getD 2 0) (zs.getD 3 0) (zs.getD 4 0) (zs.getD 5 0)
def Lim (x : Int) : Prop := -65536 ≤ x ∧ x ≤ 65536
theorem inst_bd (zs : List Int) (h : ∀ j, j < 6 → Lim (zs.getD j 0)) : -400000000000000 ≤ inst zs ∧ inst zs ≤ 400000000000000 := by
  obtain ⟨a0, b0⟩ := h 0 (by decide)
  obtain ⟨a1, b1⟩ := h 1 (by decide)
  obtain ⟨a2, b2⟩ := h 2 (by decide)
  obtain ⟨a3, b3⟩ := h 3 (by decide)
  obtain ⟨a4, b4⟩ := h 4 (by decide)
  obtain ⟨a5, b5⟩ := h 5 (by decide)
  unfold inst unixZ
  have hb := dfcM_bd (zs.getD 0 0 + zs.getD 1 0 / 12) (zs.getD 1 0 % 12 + 1) (by omega) (by omega) (by omega) (by omega)
  generalize DateLaw.dfcM (zs.getD 0 0 + zs.getD 1 0 / 12) (zs.getD 1 0 % 12 + 1) = D at hb ⊢
  omega
/-- The float of a whole second. -/
theorem epoch_word (U : Int) (h1 : -400000000000000 ≤ U) (h2 : U ≤ 400000000000000) : ∃ q, floatBits .quo .f64 (floatOfInt .f64 0) 4741671816366391296 = some 0 ∧ floatBits .add .f64 (floatOfInt .f64 U) 0 = some q ∧ (FloatKind.f64.format.order q (floatOfInt .f64 U) == some .eq) = true := by
  have hv := FloatKey.is_ofInt U (by omega)
  obtain ⟨q, hq, iq⟩ := FloatKey.is_add hv is_zero (by omega)
  rw [Int.add_zero] at iq
  exact ⟨q, by decide +kernel, hq, (FloatKey.ord_eq iq hv).trans (decide_eq_true rfl)⟩
theorem tte_any (U : Int) (h1 : -400000000000000 ≤ U) (h2 : U ≤ 400000000000000) (q : Nat) (g1 : floatBits .quo .f64 (floatOfInt .f64 0) 4741671816366391296 = some 0) (g2 : floatBits .add .f64 (floatOfInt .f64 U) 0 = some q) (w : World) :
    Calls Tryz.prog 37 #[.agg #[.int .u64 0, .int .i64 (U + 62135596800), .pointer none]] w fun e w' => e = .returned (.float .f64 q) ∧ Below w.heap.size w w' := by
  have k1 := fun w => run_float_arith (P := Tryz.prog) w .quo 25 .f64 (floatOfInt .f64 0) 4741671816366391296 0 g1
  have k2 := fun w => run_float_arith (P := Tryz.prog) w .add 25 .f64 (floatOfInt .f64 U) 0 q g2
  have HTU : Hid (∀ w, Calls Tryz.prog 21 #[.agg #[.int .u64 0, .int .i64 (U + 62135596800), .pointer none]] w fun e w' => e = .returned (.int .i64 U) ∧ Below w.heap.size w w') := Lib.hid fun w => by
    have := tUnix 0 (U + 62135596800) (by decide) (by omega) (by omega) w
    rw [show U + 62135596800 - 62135596800 = U from by omega] at this
    exact this
  have HTN : Hid (∀ w, Calls Tryz.prog 22 #[.agg #[.int .u64 0, .int .i64 (U + 62135596800), .pointer none]] w fun e w' => e = .returned (.int .i64 0) ∧ Below w.heap.size w w') := Lib.hid fun w => tNano 0 (U + 62135596800) (by decide) w
  clear g1 g2
  go_enter Tryz.func37, Tryz.ntmps37
  go_wp2_with fail
  have cr := cell_rg
  refine wp_region_quiet_below (by kernel_rfl) (by kernel_rfl) ?_
  repeat (quiet_step (first | (go_at_call 21; exact Calls.regrown_of (HTU.out _)) | (go_at_call 22; exact Calls.regrown_of (HTN.out _))))
  refine wpQuiet_nil ?_
  intro _ hw'
  obtain ⟨⟨dq, osq⟩, hw''⟩ := hw'
  subst hw''
  go_wp2
  go_ret
  exact ⟨rfl, Below.trans (by go_grown) ((below_regrown _ dq osq).mono (by first | (simp; done) | (simp; omega)))⟩
set_option maxRecDepth 100000 in
set_option maxHeartbeats 2000000 in
theorem mktime_any (zs : List Int) (n : Nat) (hn : zs.length = n) (hlim0 : ∀ j, j < 6 → Lim (zs.getD j 0)) (q : Nat) (g1 : floatBits .quo .f64 (floatOfInt .f64 0) 4741671816366391296 = some 0) (g2 : floatBits .add .f64 (floatOfInt .f64 (inst zs)) 0 = some q)
    (v : Value) (W : World) (hv : Cells.At W v (anyF zs) n) :
    Calls Tryz.prog 26 #[.iface 37 v] W fun e w' => e = .returned (.iface 25 (.float .f64 q)) ∧ Below W.heap.size W w' := by
  obtain ⟨a, cap, rfl, hcc⟩ := hv
  have HV : Hid (Cells.At W (.slice a n cap) (anyF zs) n) := Lib.hid ⟨a, cap, rfl, hcc⟩
  clear hcc
  have hlim := Lib.hid hlim0
  have bI := inst_bd zs hlim0
  clear hlim0
  obtain ⟨I, hI⟩ : ∃ I, inst zs = I := ⟨_, rfl⟩
  rw [hI] at bI g2
  obtain ⟨bI1, bI2⟩ := bI
  have HI := Lib.hid hI
  have HTE := Lib.hid fun w => tte_any I bI1 bI2 q g1 g2 w
  have HN := Lib.hid hn
  clear hI g1 g2 hn
  obtain ⟨m, hm⟩ : ∃ m, m = (if n < 8 then n else 8) := ⟨_, rfl⟩
  have hm1 : m ≤ n ∧ m ≤ 8 ∧ (m = n ∨ m = 8) := by rw [hm]; split <;> omega
  obtain ⟨hm1, hm2, hm3⟩ := hm1
  have HM := Lib.hid hm3
  clear hm hm3
  go_enter Tryz.func26, Tryz.ntmps26
  go_wp2_with fail
  refine (utc_any _).mono ?_
  rintro e w2 ⟨rfl, hb2, hc2, hz2, hl2⟩
  have HB2 := Lib.hid hb2
  have HR2 := Lib.hid (HV.out.later hb2)
  have HC2 := Lib.hid hc2
  have HZ2 := Lib.hid hz2
  clear hb2 hc2 hz2
  go_wp2_with fail
  have V : ∀ j, j < 8 → vl (fun i => zs.getD i 0) m j = zs.getD j 0 := fun j hj => vl_get zs n m j HN.out HM.out hj
  have hat := att_ok (anyF zs) (fun i => zs.getD i 0) 0 n m hm1 hm2 HM.out (fun j hj _ => rfl) (fun h => by have := hlim.out 5 (by decide); exact secOk_int _ (by unfold Lim at this; omega) (by unfold Lim at this; omega)) (by decide)
    (fun j hj => by rw [V j (by omega)]; have := hlim.out j hj; unfold Lim at this; omega) _ _ w2 HR2.out HC2.out HZ2.out hl2
  rw [V 0 (by decide), V 1 (by decide), V 2 (by decide), V 3 (by decide), V 4 (by decide), V 5 (by decide)] at hat
  rw [show unixZ (zs.getD 0 0) (zs.getD 1 0) (zs.getD 2 0) (zs.getD 3 0) (zs.getD 4 0) (zs.getD 5 0) = I from HI.out, show nsl 0 m = 0 from by unfold nsl; split <;> rfl] at hat
  clear V
  refine hat.mono ?_
  clear hat
  rintro e w3 ⟨rfl, hb3⟩
  have HB3 := Lib.hid (HB2.out.trans (hb3.mono HB2.out.size))
  clear hb3
  go_wp2_with (go_at_call 37; with_reducible refine (HTE.out _).mono ?_; rintro e w4 ⟨rfl, hb4⟩)
  go_ret
  exact ⟨rfl, (HB3.out.alloc HB3.out.size _).trans (hb4.mono (by have := HB3.out.size; simp; omega))⟩
set_option maxRecDepth 100000 in
set_option maxHeartbeats 2000000 in
theorem zzmktime_any (zs : List Int) (n : Nat) (hn : zs.length = n) (hlim0 : ∀ j, j < 6 → Lim (zs.getD j 0)) (q : Nat) (g1 : floatBits .quo .f64 (floatOfInt .f64 0) 4741671816366391296 = some 0) (g2 : floatBits .add .f64 (floatOfInt .f64 (inst zs)) 0 = some q)
    (v : Value) (hl : n ≤ 131072) (W : World) (hv : Cells.At W v (IntF zs) n) :
    Calls Tryz.prog 13 #[v] W fun e w' => e = .returned (.tuple #[.float .f64 q, .bool true]) ∧ Below W.heap.size W w' := by
  have HMK := Lib.hid fun v W hv => mktime_any zs n hn hlim0 q g1 g2 v W hv
  clear g1 g2 hlim0 hn
  obtain ⟨a, cap, rfl, hcc⟩ := hv
  have HC := Lib.hid hcc
  clear hcc
  have hmk := fun w => run_make_row' (P := Tryz.prog) 37 20 .nilIface 16 Tryz.underlying37 info_anyI rfl .i64 .i64 n (by omega) (by omega) w
  have hS : Hid (Below W.heap.size W (W.alloc (.cells (madeCells #[.nilIface] n) 20)) ∧ (W.alloc (.cells (madeCells #[.nilIface] n) 20)).rowIs W.heap.size 20 n (Cells.fill (anyF zs) .nilIface 0)) :=
    Lib.hid ⟨(Below.refl _ _).alloc (Nat.le_refl _) _, Cells.fill_start (World.rowIs_made W _ n _)⟩
  go_enter Tryz.func13, Tryz.ntmps13
  go_wp2
  go_loopw [14] (fun i wr => ∃ k : Nat, k ≤ n ∧ i = .int .i64 k ∧ Hid (Below W.heap.size W wr ∧ wr.rowIs W.heap.size 20 n (Cells.fill (anyF zs) .nilIface k))) (fun i _ => n - (intOf i).toNat)
  case atStart => exact ⟨0, Nat.zero_le _, rfl, hS⟩
  case round =>
    obtain ⟨k, hk, rfl, HR⟩ := hrel
    by_cases hlt : k < n
    · obtain ⟨b, off, hx, hbl, hcell⟩ := HC.out (by omega)
      cases hx
      have hcx : wr.cell? ⟨b, off + k, none⟩ = some (.int .i64 (zs.getD k 0)) := (HR.out.1.cell (p := ⟨b, off + k, none⟩) hbl).trans (hcell k hlt)
      clear hcell
      obtain ⟨z, hz⟩ : ∃ z, zs.getD k 0 = z := ⟨_, rfl⟩
      rw [hz] at hcx
      have HZ2 := Lib.hid hz
      clear hz
      have hco := Cells.fill_old HR.out.2 hlt (Nat.lt_irrefl _)
      have hfo := HR.out.2.frozen k
      go_wp2
      go_roundw
      case rel => exact ⟨k + 1, by omega, by go_num, Lib.hid ⟨HR.out.1.setCell (Nat.le_refl _) _, Cells.fill_set HR.out.2 _ (by unfold anyF IntF; rw [HZ2.out])⟩⟩
      case measure => simp [intOf]; omega
    · obtain rfl : k = n := by omega
      go_wp2_with fail
      refine (HMK.out _ _ (Cells.fill_at HR.out.2)).mono ?_
      rintro e w1 ⟨rfl, hb1⟩
      have HB1 := Lib.hid (HR.out.1.trans (hb1.mono HR.out.1.size))
      clear hb1
      go_wp2
      go_ret2
      exact ⟨rfl, HB1.out⟩
theorem zzb_any (n cap : Nat) (a : Option Addr) (h : n ≤ 1048576) (w : World) : Calls Tryz.prog 11 #[.slice a n cap] w fun e w' => e = .returned (.bool true) ∧ w = w' := by
  go_enter Tryz.func11, Tryz.ntmps11
  go_wp2
  go_ret
  exact ⟨rfl, rfl⟩
theorem zzb_big (n cap : Nat) (a : Option Addr) (h : 1048576 < n) (w : World) : Calls Tryz.prog 11 #[.slice a n cap] w fun e w' => e = .returned (.bool false) ∧ w = w' := by
  go_enter Tryz.func11, Tryz.ntmps11
  go_wp2
  go_ret
  exact ⟨rfl, rfl⟩
def sixF (zs : List Int) (k : Nat) : Nat → Value := fun j => .int .i64 (vl (fun i => zs.getD i 0) k j)
theorem six_set {w : World} {B : Nat} {T : TypeId} {zs : List Int} {k : Nat} (h : w.rowIs B T 6 (sixF zs k)) (x : Int) (hx : zs.getD k 0 = x) : (w.setCell ⟨B, k, none⟩ (.int .i64 x)).rowIs B T 6 (sixF zs (k + 1)) := by
  refine (h.set k _).congr fun j _ => ?_
  unfold sixF
  by_cases c : j = k
  · subst c
    rw [if_pos rfl, vl_same, hx]
  · rw [if_neg c, vl_other _ _ _ c]
set_option maxRecDepth 100000 in
set_option maxHeartbeats 8000000 in
theorem walk_FnMktimeIntListPadsMissingFieldsAndIgnoresTail (W : World) (v : Value) (zs : List Int) (hv0 : IntArg W v zs) (hz : ∀ z ∈ zs, (Lit.int .i64 z).wf = true) :
    Calls Tryz.prog 4 #[v] W fun e w' => e = .returned (.bool true) ∧ Below W.heap.size W w' := by
  obtain ⟨n, hn⟩ : ∃ n, zs.length = n := ⟨_, rfl⟩
  have hv := at_intArg hv0
  rw [hn] at hv
  have HZS := Lib.hid hz
  have HN := Lib.hid hn
  clear hv0 hz hn
  have HV := Lib.hid hv
  obtain ⟨a, cap, rfl, hcc⟩ := hv
  have HC := Lib.hid hcc
  clear hcc
  by_cases c1 : 1048576 < n
  · go_enter Tryz.func4, Tryz.ntmps4
    go_wp2_with (go_at_call 11; refine (zzb_big n cap a c1 _).mono ?_; rintro e w' ⟨rfl, rfl⟩)
    go_ret
    exact ⟨rfl, Below.refl _ _⟩
  have hm : n ≤ 1048576 := by omega
  by_cases c2 : 4096 < n
  · go_enter Tryz.func4, Tryz.ntmps4
    go_wp2_with (go_at_call 11; refine (zzb_any n cap a hm _).mono ?_; rintro e w' ⟨rfl, rfl⟩)
    go_ret
    exact ⟨rfl, Below.refl _ _⟩
  have hnb : n ≤ 131072 := by omega
  go_enter Tryz.func4, Tryz.ntmps4
  go_wp2_with (go_at_call 11; refine (zzb_any n cap a hm _).mono ?_; rintro e w' ⟨rfl, rfl⟩)
  go_loop [3] (fun i => ∃ k : Nat, k ≤ n ∧ k ≤ 6 ∧ i = .int .i64 k ∧ Hid (∀ j, j < k → Lim (zs.getD j 0))) (fun i => n - (intOf i).toNat)
  case atStart => exact ⟨0, Nat.zero_le _, Nat.zero_le _, rfl, Lib.hid fun j hj => absurd hj (Nat.not_lt_zero _)⟩
  case round =>
    obtain ⟨k, hkn, hk6, rfl, HK⟩ := hrel
    by_cases hlt : k < n
    · by_cases hl6 : k < 6
      · have hi6 : (k : Int) < 6 := by omega
        obtain ⟨b, off, hx, hbl, hcell⟩ := HC.out (by omega)
        cases hx
        have hin := getD_in64 HZS.out k
        have hcx : W.cell? ⟨b, off + k, none⟩ = some (.int .i64 (zs.getD k 0)) := hcell k hlt
        clear hcell
        obtain ⟨z, hz⟩ : ∃ z, zs.getD k 0 = z := ⟨_, rfl⟩
        rw [hz] at hcx hin
        have hin1 := hin.1
        have hin2 := hin.2
        have HZ2 := Lib.hid hz
        clear hz hin
        by_cases d1 : z < -65536
        · go_wp2
          go_ret
          exact ⟨rfl, Below.refl _ _⟩
        · by_cases d2 : 65536 < z
          · go_wp2
            go_ret
            exact ⟨rfl, Below.refl _ _⟩
          · go_wp2
            go_round
            case rel => exact ⟨k + 1, by omega, by omega, by go_num, Lib.hid fun j hj => by
              by_cases e : j = k
              · rw [e, HZ2.out]; unfold Lim; omega
              · exact HK.out j (by omega)⟩
            case measure => simp [intOf]; omega
      · have hi6 : ¬ ((k : Int) < 6) := by omega
        have HK6 : Hid (∀ j, j < 6 → Lim (zs.getD j 0)) := Lib.hid fun j hj => by
          by_cases c : j < k
          · exact HK.out j c
          · rw [getD_out zs n j HN.out (by omega)]; unfold Lim; omega
        have bI := inst_bd zs HK6.out
        obtain ⟨q, g1, g2, g3⟩ := epoch_word (inst zs) bI.1 bI.2
        have HZZ := Lib.hid fun v W hv => zzmktime_any zs n HN.out HK6.out q g1 g2 v hnb W hv
        have HUO : Hid (∀ w, Calls Tryz.prog 14 #[.int .i64 (zs.getD 0 0), .int .i64 (zs.getD 1 0), .int .i64 (zs.getD 2 0), .int .i64 (zs.getD 3 0), .int .i64 (zs.getD 4 0), .int .i64 (zs.getD 5 0)] w fun e w' => e = .returned (.int .i64 (inst zs)) ∧ w = w') := Lib.hid fun w => by
          have l0 := HK6.out 0 (by decide)
          have l1 := HK6.out 1 (by decide)
          have l2 := HK6.out 2 (by decide)
          have l3 := HK6.out 3 (by decide)
          have l4 := HK6.out 4 (by decide)
          have l5 := HK6.out 5 (by decide)
          unfold Lim at l0 l1 l2 l3 l4 l5
          exact zunix_any _ _ _ _ _ _ (by omega) (by omega) (by omega) (by omega) (by omega) (by omega) w
        obtain ⟨y0, hy0⟩ : ∃ y, zs.getD 0 0 = y := ⟨_, rfl⟩
        obtain ⟨y1, hy1⟩ : ∃ y, zs.getD 1 0 = y := ⟨_, rfl⟩
        obtain ⟨y2, hy2⟩ : ∃ y, zs.getD 2 0 = y := ⟨_, rfl⟩
        obtain ⟨y3, hy3⟩ : ∃ y, zs.getD 3 0 = y := ⟨_, rfl⟩
        obtain ⟨y4, hy4⟩ : ∃ y, zs.getD 4 0 = y := ⟨_, rfl⟩
        obtain ⟨y5, hy5⟩ : ∃ y, zs.getD 5 0 = y := ⟨_, rfl⟩
        rw [hy0, hy1, hy2, hy3, hy4, hy5] at HUO
        have HY0 := Lib.hid hy0
        have HY1 := Lib.hid hy1
        have HY2 := Lib.hid hy2
        have HY3 := Lib.hid hy3
        have HY4 := Lib.hid hy4
        have HY5 := Lib.hid hy5
        obtain ⟨I, hI⟩ : ∃ I, inst zs = I := ⟨_, rfl⟩
        rw [hI] at HUO g3 bI
        have bI1 := bI.1
        have bI2 := bI.2
        clear g1 g2 hI bI hy0 hy1 hy2 hy3 hy4 hy5
        go_wp2_with fail
        refine (zclone_any zs n _ hnb _ HV.out).mono ?_
        rintro e w0 ⟨⟨v0, rfl, hv0⟩, hb0⟩
        have HV0 := Lib.hid hv0
        have HB0 := Lib.hid hb0
        obtain ⟨a0, cap0, rfl, hc0⟩ := hv0
        have HC0 := Lib.hid hc0
        clear hb0 hc0
        have hS6 : Hid (Below w0.heap.size w0 (w0.alloc (.cells #[.int .i64 0, .int .i64 0, .int .i64 0, .int .i64 0, .int .i64 0, .int .i64 0] 30)) ∧ (w0.alloc (.cells #[.int .i64 0, .int .i64 0, .int .i64 0, .int .i64 0, .int .i64 0, .int .i64 0] 30)).rowIs w0.heap.size 30 6 (sixF zs 0)) :=
          Lib.hid ⟨(Below.refl _ _).alloc (Nat.le_refl _) _, World.rowIs_alloc w0 _ _ _ fun i hi => by
            have : i = 0 ∨ i = 1 ∨ i = 2 ∨ i = 3 ∨ i = 4 ∨ i = 5 := by simp at hi; omega
            rcases this with rfl | rfl | rfl | rfl | rfl | rfl <;> rfl⟩
        go_wp2_with fail
        go_loopw [5] (fun i wr => ∃ k : Nat, k ≤ n ∧ k ≤ 6 ∧ i = .int .i64 k ∧ Hid (Below w0.heap.size w0 wr ∧ wr.rowIs w0.heap.size 30 6 (sixF zs k))) (fun i _ => n - (intOf i).toNat)
        case atStart => exact ⟨0, Nat.zero_le _, Nat.zero_le _, rfl, hS6⟩
        case round =>
          obtain ⟨k, hk, hk6, rfl, HR⟩ := hrel
          by_cases hlt : k < n ∧ k < 6
          · obtain ⟨hlt, hlt6⟩ := hlt
            have hi6 : (k : Int) < 6 := by omega
            obtain ⟨b, off, hx, hbl, hcell⟩ := HC0.out (by omega)
            cases hx
            have hcx : wr.cell? ⟨b, off + k, none⟩ = some (.int .i64 (zs.getD k 0)) := (HR.out.1.cell (p := ⟨b, off + k, none⟩) hbl).trans (hcell k hlt)
            clear hcell
            obtain ⟨z, hz⟩ : ∃ z, zs.getD k 0 = z := ⟨_, rfl⟩
            rw [hz] at hcx
            have HZ2 := Lib.hid hz
            clear hz
            have hco := HR.out.2.cell hlt6
            have hfo := HR.out.2.frozen k
            unfold sixF at hco
            go_wp2
            go_roundw
            case rel => exact ⟨k + 1, by omega, by omega, by go_num, Lib.hid ⟨HR.out.1.setCell (Nat.le_refl _) _, six_set HR.out.2 z HZ2.out⟩⟩
            case measure => simp [intOf]; omega
          · have HX : Hid (∀ j, j < 6 → vl (fun i => zs.getD i 0) k j = zs.getD j 0) := Lib.hid fun j hj => by
              unfold vl
              by_cases c : j < k
              · rw [if_pos c]
              · rw [if_neg c, getD_out zs n j HN.out (by omega)]
            by_cases hkn : k < n
            · have hi6 : ¬ ((k : Int) < 6) := by omega
              go_wp2_with fail
              refine (HZZ.out _ _ (HV0.out.later HR.out.1)).mono ?_
              rintro e w1 ⟨rfl, hb1⟩
              have rr := Cells.rowIs_later HR.out.2 hb1
              have c0 : w1.cell? ⟨w0.heap.size, 0, none⟩ = some (.int .i64 y0) := by rw [← HY0.out, ← HX.out 0 (by decide)]; exact rr.cell (by decide)
              have c1 : w1.cell? ⟨w0.heap.size, 1, none⟩ = some (.int .i64 y1) := by rw [← HY1.out, ← HX.out 1 (by decide)]; exact rr.cell (by decide)
              have c2 : w1.cell? ⟨w0.heap.size, 2, none⟩ = some (.int .i64 y2) := by rw [← HY2.out, ← HX.out 2 (by decide)]; exact rr.cell (by decide)
              have c3 : w1.cell? ⟨w0.heap.size, 3, none⟩ = some (.int .i64 y3) := by rw [← HY3.out, ← HX.out 3 (by decide)]; exact rr.cell (by decide)
              have c4 : w1.cell? ⟨w0.heap.size, 4, none⟩ = some (.int .i64 y4) := by rw [← HY4.out, ← HX.out 4 (by decide)]; exact rr.cell (by decide)
              have c5 : w1.cell? ⟨w0.heap.size, 5, none⟩ = some (.int .i64 y5) := by rw [← HY5.out, ← HX.out 5 (by decide)]; exact rr.cell (by decide)
              have HB1 := Lib.hid (HB0.out.trans ((HR.out.1.trans (hb1.mono HR.out.1.size)).mono HB0.out.size))
              clear hb1 rr
              go_wp2_with (go_at_call 14; with_reducible refine (HUO.out _).mono ?_; rintro e w' ⟨rfl, rfl⟩)
              go_ret
              exact ⟨rfl, HB1.out⟩
            · go_wp2_with fail
              refine (HZZ.out _ _ (HV0.out.later HR.out.1)).mono ?_
              rintro e w1 ⟨rfl, hb1⟩
              have rr := Cells.rowIs_later HR.out.2 hb1
              have c0 : w1.cell? ⟨w0.heap.size, 0, none⟩ = some (.int .i64 y0) := by rw [← HY0.out, ← HX.out 0 (by decide)]; exact rr.cell (by decide)
              have c1 : w1.cell? ⟨w0.heap.size, 1, none⟩ = some (.int .i64 y1) := by rw [← HY1.out, ← HX.out 1 (by decide)]; exact rr.cell (by decide)
              have c2 : w1.cell? ⟨w0.heap.size, 2, none⟩ = some (.int .i64 y2) := by rw [← HY2.out, ← HX.out 2 (by decide)]; exact rr.cell (by decide)
              have c3 : w1.cell? ⟨w0.heap.size, 3, none⟩ = some (.int .i64 y3) := by rw [← HY3.out, ← HX.out 3 (by decide)]; exact rr.cell (by decide)
              have c4 : w1.cell? ⟨w0.heap.size, 4, none⟩ = some (.int .i64 y4) := by rw [← HY4.out, ← HX.out 4 (by decide)]; exact rr.cell (by decide)
              have c5 : w1.cell? ⟨w0.heap.size, 5, none⟩ = some (.int .i64 y5) := by rw [← HY5.out, ← HX.out 5 (by decide)]; exact rr.cell (by decide)
              have HB1 := Lib.hid (HB0.out.trans ((HR.out.1.trans (hb1.mono HR.out.1.size)).mono HB0.out.size))
              clear hb1 rr
              go_wp2_with (go_at_call 14; with_reducible refine (HUO.out _).mono ?_; rintro e w' ⟨rfl, rfl⟩)
              go_ret
              exact ⟨rfl, HB1.out⟩
    · have hnn : ¬ ((k : Int) < (n : Int)) := by omega
      have HK6 : Hid (∀ j, j < 6 → Lim (zs.getD j 0)) := Lib.hid fun j hj => by
        by_cases c : j < k
        · exact HK.out j c
        · rw [getD_out zs n j HN.out (by omega)]; unfold Lim; omega
      have bI := inst_bd zs HK6.out
      obtain ⟨q, g1, g2, g3⟩ := epoch_word (inst zs) bI.1 bI.2
      have HZZ := Lib.hid fun v W hv => zzmktime_any zs n HN.out HK6.out q g1 g2 v hnb W hv
      have HUO : Hid (∀ w, Calls Tryz.prog 14 #[.int .i64 (zs.getD 0 0), .int .i64 (zs.getD 1 0), .int .i64 (zs.getD 2 0), .int .i64 (zs.getD 3 0), .int .i64 (zs.getD 4 0), .int .i64 (zs.getD 5 0)] w fun e w' => e = .returned (.int .i64 (inst zs)) ∧ w = w') := Lib.hid fun w => by
        have l0 := HK6.out 0 (by decide)
        have l1 := HK6.out 1 (by decide)
        have l2 := HK6.out 2 (by decide)
        have l3 := HK6.out 3 (by decide)
        have l4 := HK6.out 4 (by decide)
        have l5 := HK6.out 5 (by decide)
        unfold Lim at l0 l1 l2 l3 l4 l5
        exact zunix_any _ _ _ _ _ _ (by omega) (by omega) (by omega) (by omega) (by omega) (by omega) w
      obtain ⟨y0, hy0⟩ : ∃ y, zs.getD 0 0 = y := ⟨_, rfl⟩
      obtain ⟨y1, hy1⟩ : ∃ y, zs.getD 1 0 = y := ⟨_, rfl⟩
      obtain ⟨y2, hy2⟩ : ∃ y, zs.getD 2 0 = y := ⟨_, rfl⟩
      obtain ⟨y3, hy3⟩ : ∃ y, zs.getD 3 0 = y := ⟨_, rfl⟩
      obtain ⟨y4, hy4⟩ : ∃ y, zs.getD 4 0 = y := ⟨_, rfl⟩
      obtain ⟨y5, hy5⟩ : ∃ y, zs.getD 5 0 = y := ⟨_, rfl⟩
      rw [hy0, hy1, hy2, hy3, hy4, hy5] at HUO
      have HY0 := Lib.hid hy0
      have HY1 := Lib.hid hy1
      have HY2 := Lib.hid hy2
      have HY3 := Lib.hid hy3
      have HY4 := Lib.hid hy4
      have HY5 := Lib.hid hy5
      obtain ⟨I, hI⟩ : ∃ I, inst zs = I := ⟨_, rfl⟩
      rw [hI] at HUO g3 bI
      have bI1 := bI.1
      have bI2 := bI.2
      clear g1 g2 hI bI hy0 hy1 hy2 hy3 hy4 hy5
      go_wp2_with fail
      refine (zclone_any zs n _ hnb _ HV.out).mono ?_
      rintro e w0 ⟨⟨v0, rfl, hv0⟩, hb0⟩
      have HV0 := Lib.hid hv0
      have HB0 := Lib.hid hb0
      obtain ⟨a0, cap0, rfl, hc0⟩ := hv0
      have HC0 := Lib.hid hc0
      clear hb0 hc0
      have hS6 : Hid (Below w0.heap.size w0 (w0.alloc (.cells #[.int .i64 0, .int .i64 0, .int .i64 0, .int .i64 0, .int .i64 0, .int .i64 0] 30)) ∧ (w0.alloc (.cells #[.int .i64 0, .int .i64 0, .int .i64 0, .int .i64 0, .int .i64 0, .int .i64 0] 30)).rowIs w0.heap.size 30 6 (sixF zs 0)) :=
        Lib.hid ⟨(Below.refl _ _).alloc (Nat.le_refl _) _, World.rowIs_alloc w0 _ _ _ fun i hi => by
          have : i = 0 ∨ i = 1 ∨ i = 2 ∨ i = 3 ∨ i = 4 ∨ i = 5 := by simp at hi; omega
          rcases this with rfl | rfl | rfl | rfl | rfl | rfl <;> rfl⟩
      go_wp2_with fail
      go_loopw [5] (fun i wr => ∃ k : Nat, k ≤ n ∧ k ≤ 6 ∧ i = .int .i64 k ∧ Hid (Below w0.heap.size w0 wr ∧ wr.rowIs w0.heap.size 30 6 (sixF zs k))) (fun i _ => n - (intOf i).toNat)
      case atStart => exact ⟨0, Nat.zero_le _, Nat.zero_le _, rfl, hS6⟩
      case round =>
        obtain ⟨k, hk, hk6, rfl, HR⟩ := hrel
        by_cases hlt : k < n ∧ k < 6
        · obtain ⟨hlt, hlt6⟩ := hlt
          have hi6 : (k : Int) < 6 := by omega
          obtain ⟨b, off, hx, hbl, hcell⟩ := HC0.out (by omega)
          cases hx
          have hcx : wr.cell? ⟨b, off + k, none⟩ = some (.int .i64 (zs.getD k 0)) := (HR.out.1.cell (p := ⟨b, off + k, none⟩) hbl).trans (hcell k hlt)
          clear hcell
          obtain ⟨z, hz⟩ : ∃ z, zs.getD k 0 = z := ⟨_, rfl⟩
          rw [hz] at hcx
          have HZ2 := Lib.hid hz
          clear hz
          have hco := HR.out.2.cell hlt6
          have hfo := HR.out.2.frozen k
          unfold sixF at hco
          go_wp2
          go_roundw
          case rel => exact ⟨k + 1, by omega, by omega, by go_num, Lib.hid ⟨HR.out.1.setCell (Nat.le_refl _) _, six_set HR.out.2 z HZ2.out⟩⟩
          case measure => simp [intOf]; omega
        · have HX : Hid (∀ j, j < 6 → vl (fun i => zs.getD i 0) k j = zs.getD j 0) := Lib.hid fun j hj => by
            unfold vl
            by_cases c : j < k
            · rw [if_pos c]
            · rw [if_neg c, getD_out zs n j HN.out (by omega)]
          by_cases hkn : k < n
          · have hi6 : ¬ ((k : Int) < 6) := by omega
            go_wp2_with fail
            refine (HZZ.out _ _ (HV0.out.later HR.out.1)).mono ?_
            rintro e w1 ⟨rfl, hb1⟩
            have rr := Cells.rowIs_later HR.out.2 hb1
            have c0 : w1.cell? ⟨w0.heap.size, 0, none⟩ = some (.int .i64 y0) := by rw [← HY0.out, ← HX.out 0 (by decide)]; exact rr.cell (by decide)
            have c1 : w1.cell? ⟨w0.heap.size, 1, none⟩ = some (.int .i64 y1) := by rw [← HY1.out, ← HX.out 1 (by decide)]; exact rr.cell (by decide)
            have c2 : w1.cell? ⟨w0.heap.size, 2, none⟩ = some (.int .i64 y2) := by rw [← HY2.out, ← HX.out 2 (by decide)]; exact rr.cell (by decide)
            have c3 : w1.cell? ⟨w0.heap.size, 3, none⟩ = some (.int .i64 y3) := by rw [← HY3.out, ← HX.out 3 (by decide)]; exact rr.cell (by decide)
            have c4 : w1.cell? ⟨w0.heap.size, 4, none⟩ = some (.int .i64 y4) := by rw [← HY4.out, ← HX.out 4 (by decide)]; exact rr.cell (by decide)
            have c5 : w1.cell? ⟨w0.heap.size, 5, none⟩ = some (.int .i64 y5) := by rw [← HY5.out, ← HX.out 5 (by decide)]; exact rr.cell (by decide)
            have HB1 := Lib.hid (HB0.out.trans ((HR.out.1.trans (hb1.mono HR.out.1.size)).mono HB0.out.size))
            clear hb1 rr
            go_wp2_with (go_at_call 14; with_reducible refine (HUO.out _).mono ?_; rintro e w' ⟨rfl, rfl⟩)
            go_ret
            exact ⟨rfl, HB1.out⟩
          · go_wp2_with fail
            refine (HZZ.out _ _ (HV0.out.later HR.out.1)).mono ?_
            rintro e w1 ⟨rfl, hb1⟩
            have rr := Cells.rowIs_later HR.out.2 hb1
            have c0 : w1.cell? ⟨w0.heap.size, 0, none⟩ = some (.int .i64 y0) := by rw [← HY0.out, ← HX.out 0 (by decide)]; exact rr.cell (by decide)
            have c1 : w1.cell? ⟨w0.heap.size, 1, none⟩ = some (.int .i64 y1) := by rw [← HY1.out, ← HX.out 1 (by decide)]; exact rr.cell (by decide)
            have c2 : w1.cell? ⟨w0.heap.size, 2, none⟩ = some (.int .i64 y2) := by rw [← HY2.out, ← HX.out 2 (by decide)]; exact rr.cell (by decide)
            have c3 : w1.cell? ⟨w0.heap.size, 3, none⟩ = some (.int .i64 y3) := by rw [← HY3.out, ← HX.out 3 (by decide)]; exact rr.cell (by decide)
            have c4 : w1.cell? ⟨w0.heap.size, 4, none⟩ = some (.int .i64 y4) := by rw [← HY4.out, ← HX.out 4 (by decide)]; exact rr.cell (by decide)
            have c5 : w1.cell? ⟨w0.heap.size, 5, none⟩ = some (.int .i64 y5) := by rw [← HY5.out, ← HX.out 5 (by decide)]; exact rr.cell (by decide)
            have HB1 := Lib.hid (HB0.out.trans ((HR.out.1.trans (hb1.mono HR.out.1.size)).mono HB0.out.size))
            clear hb1 rr
            go_wp2_with (go_at_call 14; with_reducible refine (HUO.out _).mono ?_; rintro e w' ⟨rfl, rfl⟩)
            go_ret
            exact ⟨rfl, HB1.out⟩
end Go.Proofs.YtonbnmpleecegaaGreatDoor
