/- The walks of FnArrayToTimeMatchesCivilModel and FnArrayToTimeFractionalSecond. -/
import Derived.Test.YtonbnmpleecegaaGreatDoorSec
import Derived.Test.YtonbnmpleecegaaGreatDoorAttF
import Derived.Test.YtonbnmpleecegaaGreatDoorL39
namespace Go.Proofs.YtonbnmpleecegaaGreatDoor
open Go.RowKit Go.Deep

def anyF (zs : List Int) : Nat → Value := fun j => .iface 3 (IntF zs j)
set_option maxRecDepth 100000 in
set_option maxHeartbeats 2000000 in
theorem ints_any (zs : List Int) (n : Nat) (v : Value) (hl : n ≤ 131072) (W : World) (hv : Cells.At W v (IntF zs) n) :
    Calls Tryz.prog 18 #[v] W fun e w' => e = .returned (.slice (some ⟨W.heap.size, 0, none⟩) n n) ∧ w'.rowIs W.heap.size 20 n (anyF zs) ∧ Below W.heap.size W w' := by
  obtain ⟨a, cap, rfl, hcc⟩ := hv
  have HC := Lib.hid hcc
  clear hcc
  have hmk := fun w => run_make_row' (P := Tryz.prog) 37 20 .nilIface 16 Tryz.underlying37 info_anyI rfl .i64 .i64 n (by omega) (by omega) w
  have hS : Hid (Below W.heap.size W (W.alloc (.cells (madeCells #[.nilIface] n) 20)) ∧ (W.alloc (.cells (madeCells #[.nilIface] n) 20)).rowIs W.heap.size 20 n (Cells.fill (anyF zs) .nilIface 0)) :=
    Lib.hid ⟨(Below.refl _ _).alloc (Nat.le_refl _) _, Cells.fill_start (World.rowIs_made W _ n _)⟩
  go_enter Tryz.func18, Tryz.ntmps18
  go_wp2
  go_loopw [10] (fun i wr => ∃ k : Nat, k ≤ n ∧ i = .int .i64 k ∧ Hid (Below W.heap.size W wr ∧ wr.rowIs W.heap.size 20 n (Cells.fill (anyF zs) .nilIface k))) (fun i _ => n - (intOf i).toNat)
  case atStart => exact ⟨0, Nat.zero_le _, rfl, hS⟩
  case round =>
    obtain ⟨k, hk, rfl, HR⟩ := hrel
    by_cases hlt : k < n
    · obtain ⟨b, off, hx, hbl, hcell⟩ := HC.out (by omega)
      cases hx
      have hcx : wr.cell? ⟨b, off + k, none⟩ = some (.int .i64 (zs.getD k 0)) := (HR.out.1.cell (p := ⟨b, off + k, none⟩) hbl).trans (hcell k hlt)
      clear hcell
      obtain ⟨z, hz⟩ : ∃ z, zs.getD k 0 = z := ⟨_, rfl⟩
      rw [hz] at hcx
      have HZ2 := Lib.hid hz
      clear hz
      have hco := Cells.fill_old HR.out.2 hlt (Nat.lt_irrefl _)
      have hfo := HR.out.2.frozen k
      go_wp2
      go_roundw
      case rel => exact ⟨k + 1, by omega, by go_num, Lib.hid ⟨HR.out.1.setCell (Nat.le_refl _) _, Cells.fill_set HR.out.2 _ (by unfold anyF IntF; rw [HZ2.out])⟩⟩
      case measure => simp [intOf]; omega
    · obtain rfl : k = n := by omega
      go_wp2
      go_ret
      exact ⟨rfl, HR.out.2.congr fun j hj => by unfold Cells.fill; rw [if_pos hj], HR.out.1⟩
theorem row_at {w : World} {B : Nat} {T : TypeId} {n c : Nat} {F : Nat → Value} (h : w.rowIs B T n F) : Cells.At w (.slice (some ⟨B, 0, none⟩) n c) F n :=
  ⟨_, c, rfl, fun _ => ⟨B, 0, rfl, h.lt, fun i hi => by rw [Nat.zero_add]; exact h.cell hi⟩⟩
/-- The row with one place written over. -/
def putF (F : Nat → Value) (b : Nat) (x : Value) : Nat → Value := fun j => if j = b then x else F j
theorem row_put {w : World} {B : Nat} {T : TypeId} {n : Nat} {F : Nat → Value} (h : w.rowIs B T n F) (b : Nat) (x : Value) : (w.setCell ⟨B, b, none⟩ x).rowIs B T n (putF F b x) := h.set b x
def BadEnd (n : Nat) (F : Nat → Value) (W : World) (e : Ending) (w' : World) : Prop :=
  e = .returned (.slice (some ⟨W.heap.size, 0, none⟩) n n) ∧ w'.rowIs W.heap.size 20 n F ∧ Below W.heap.size W w'
set_option maxRecDepth 100000 in
set_option maxHeartbeats 2000000 in
/-- No place is spoilt. -/
theorem bad_none (zs : List Int) (n : Nat) (v : Value) (hl : n ≤ 131072) (bad : Int) (hb : bad < 0 ∨ (n : Int) ≤ bad) (W : World) (hv : Cells.At W v (IntF zs) n) :
    Calls Tryz.prog 30 #[v, .int .i64 bad] W (BadEnd n (anyF zs) W) := by
  have HV := Lib.hid hv
  clear hv
  rcases hb with hb | hb
  · have h1 : ¬ (0 ≤ bad) := by omega
    go_enter Tryz.func30, Tryz.ntmps30
    go_wp2_with fail
    refine (ints_any zs n v hl _ HV.out).mono ?_
    rintro e w1 ⟨rfl, hr1, hb1⟩
    have HR1 := Lib.hid hr1
    have HB1 := Lib.hid hb1
    clear hr1 hb1
    go_wp2
    go_ret
    exact ⟨rfl, HR1.out, HB1.out⟩
  · have h1 : 0 ≤ bad := by omega
    go_enter Tryz.func30, Tryz.ntmps30
    go_wp2_with fail
    refine (ints_any zs n v hl _ HV.out).mono ?_
    rintro e w1 ⟨rfl, hr1, hb1⟩
    have HR1 := Lib.hid hr1
    have HB1 := Lib.hid hb1
    clear hr1 hb1
    go_wp2
    go_ret
    exact ⟨rfl, HR1.out, HB1.out⟩
set_option maxRecDepth 100000 in
set_option maxHeartbeats 2000000 in
/-- Place b is spoilt. -/
theorem bad_some (zs : List Int) (n : Nat) (v : Value) (hl : n ≤ 131072) (b : Nat) (hb : b < n) (W : World) (hv : Cells.At W v (IntF zs) n) :
    Calls Tryz.prog 30 #[v, .int .i64 b] W fun e w' => ∃ x, BadEnd n (putF (anyF zs) b (.iface 9 x)) W e w' := by
  have HV := Lib.hid hv
  clear hv
  go_enter Tryz.func30, Tryz.ntmps30
  go_wp2_with fail
  refine (ints_any zs n v hl _ HV.out).mono ?_
  rintro e w1 ⟨rfl, hr1, hb1⟩
  have hco := hr1.cell hb
  have hfo := hr1.frozen b
  have HR1 := Lib.hid hr1
  have HB1 := Lib.hid hb1
  clear hr1 hb1
  go_wp2
  go_ret
  exact ⟨_, rfl, row_put HR1.out b _, HB1.out.setCell (Nat.le_refl _) _⟩
/-- The fields that the model reads. -/
theorem vl_get (zs : List Int) (n m j : Nat) (hn : zs.length = n) (hm : m = n ∨ m = 8) (hj : j < 8) : vl (fun i => zs.getD i 0) m j = zs.getD j 0 := by
  unfold vl
  by_cases c : j < m
  · rw [if_pos c]
  · rw [if_neg c, getD_out zs n j hn (by omega)]
/-- The instant of a whole row. -/
def inst (zs : List Int) : Int := unixZ (zs.getD 0 0) (zs.getD 1 0) (zs.getD 2 0) (zs.getD 3 0) (zs.getD 4 0) (zs.getD 5 0)
def Lim (x : Int) : Prop := -1048576 ≤ x ∧ x ≤ 1048576
theorem inst_bd (zs : List Int) (h : ∀ j, j < 6 → Lim (zs.getD j 0)) : -1000000000000000 ≤ inst zs ∧ inst zs ≤ 1000000000000000 := by
  obtain ⟨a0, b0⟩ := h 0 (by decide)
  obtain ⟨a1, b1⟩ := h 1 (by decide)
  obtain ⟨a2, b2⟩ := h 2 (by decide)
  obtain ⟨a3, b3⟩ := h 3 (by decide)
  obtain ⟨a4, b4⟩ := h 4 (by decide)
  obtain ⟨a5, b5⟩ := h 5 (by decide)
  unfold inst unixZ
  have hb := dfcM_bd (zs.getD 0 0 + zs.getD 1 0 / 12) (zs.getD 1 0 % 12 + 1) (by omega) (by omega) (by omega) (by omega)
  generalize DateLaw.dfcM (zs.getD 0 0 + zs.getD 1 0 / 12) (zs.getD 1 0 % 12 + 1) = D at hb ⊢
  omega
set_option maxRecDepth 100000 in
set_option maxHeartbeats 2000000 in
theorem zzAtt_ok (zs : List Int) (n : Nat) (hn : zs.length = n) (v : Value) (hl : n ≤ 131072) (bad : Int) (hb : bad < 0 ∨ 8 ≤ bad ∨ (n : Int) ≤ bad) (hlim0 : ∀ j, j < 6 → Lim (zs.getD j 0)) (W : World) (hv : Cells.At W v (IntF zs) n) :
    Calls Tryz.prog 16 #[v, .int .i64 bad] W fun e w' => e = .returned (.tuple #[.int .i64 (inst zs), .int .i64 0, .bool false]) ∧ Below W.heap.size W w' := by
  have hlim := Lib.hid hlim0
  clear hlim0
  have bI := inst_bd zs hlim.out
  obtain ⟨I, hI⟩ : ∃ I, inst zs = I := ⟨_, rfl⟩
  rw [hI] at bI ⊢
  obtain ⟨bI1, bI2⟩ := bI
  have HI := Lib.hid hI
  clear hI
  obtain ⟨m, hm⟩ : ∃ m, m = (if n < 8 then n else 8) := ⟨_, rfl⟩
  have hm1 : m ≤ n ∧ m ≤ 8 ∧ (m = n ∨ m = 8) := by rw [hm]; split <;> omega
  obtain ⟨hm1, hm2, hm3⟩ := hm1
  have HM := Lib.hid hm3
  have HN := Lib.hid hn
  clear hm hm3 hn
  have hW : ∀ w, Cells.At w v (IntF zs) n → Calls Tryz.prog 30 #[v, .int .i64 bad] w fun e w' => ∃ F, (∀ j, j < m → F j = .iface 3 (.int .i64 (zs.getD j 0))) ∧ BadEnd n F w e w' := fun w hv => by
    by_cases c : bad < 0 ∨ (n : Int) ≤ bad
    · exact (bad_none zs n v hl bad c w hv).mono fun e w' h => ⟨_, fun j _ => rfl, h⟩
    · obtain ⟨b, rfl⟩ : ∃ b : Nat, bad = b := ⟨bad.toNat, by omega⟩
      refine (bad_some zs n v hl b (by omega) w hv).mono fun e w' ⟨x, h⟩ => ⟨_, fun j hj => ?_, h⟩
      unfold putF
      rw [if_neg (by omega)]
      rfl
  have HW := Lib.hid hW
  clear hW hb
  have HV := Lib.hid hv
  clear hv
  go_enter Tryz.func16, Tryz.ntmps16
  go_wp2_with fail
  refine (HW.out _ HV.out).mono ?_
  rintro e w1 ⟨F, hF, rfl, hr1, hb1⟩
  have HF := Lib.hid hF
  clear hF
  have HR1 := Lib.hid hr1
  have HB1 := Lib.hid hb1
  clear hr1 hb1
  go_wp2_with fail
  refine (utc_any _).mono ?_
  rintro e w2 ⟨rfl, hb2, hc2, hz2, hl2⟩
  have HB2 := Lib.hid (HB1.out.trans (hb2.mono HB1.out.size))
  have HR2 := Lib.hid (row_at (c := n) (Cells.rowIs_later HR1.out hb2))
  have HC2 := Lib.hid hc2
  have HZ2 := Lib.hid hz2
  clear hb2 hc2 hz2
  go_wp2_with fail
  have hat := att_ok F (fun i => zs.getD i 0) 0 n m hm1 hm2 HM.out (fun j hj _ => HF.out j hj) (fun h => by rw [HF.out 5 h]; have := hlim.out 5 (by decide); exact secOk_int _ (by unfold Lim at this; omega) (by unfold Lim at this; omega)) (by decide)
    (fun j hj => by rw [vl_get zs n m j HN.out HM.out (by omega)]; have := hlim.out j hj; unfold Lim at this; omega) _ _ w2 HR2.out HC2.out HZ2.out hl2
  simp only [vl_get zs n m _ HN.out HM.out (show 0 < 8 by decide), vl_get zs n m _ HN.out HM.out (show 1 < 8 by decide), vl_get zs n m _ HN.out HM.out (show 2 < 8 by decide), vl_get zs n m _ HN.out HM.out (show 3 < 8 by decide), vl_get zs n m _ HN.out HM.out (show 4 < 8 by decide), vl_get zs n m _ HN.out HM.out (show 5 < 8 by decide)] at hat
  rw [show unixZ (zs.getD 0 0) (zs.getD 1 0) (zs.getD 2 0) (zs.getD 3 0) (zs.getD 4 0) (zs.getD 5 0) = I from HI.out, show nsl 0 m = ((0 : Nat) : Int) from by unfold nsl; split <;> rfl] at hat
  refine hat.mono ?_
  clear hat
  rintro e w3 ⟨rfl, hb3⟩
  have HB3 := Lib.hid (HB2.out.trans (hb3.mono HB2.out.size))
  clear hb3
  have TU : ∀ w, Calls Tryz.prog 21 #[.agg #[.int .u64 0, .int .i64 (I + 62135596800), .pointer none]] w fun e w' => e = .returned (.int .i64 I) ∧ Below w.heap.size w w' := fun w => by
    have := tUnix 0 (I + 62135596800) (by decide) (by omega) (by omega) w
    rw [show I + 62135596800 - 62135596800 = I from by omega] at this
    exact this
  have TN : ∀ w, Calls Tryz.prog 22 #[.agg #[.int .u64 0, .int .i64 (I + 62135596800), .pointer none]] w fun e w' => e = .returned (.int .i64 0) ∧ Below w.heap.size w w' := fun w => tNano 0 (I + 62135596800) (by decide) w
  have HTU := Lib.hid TU
  have HTN := Lib.hid TN
  clear TU TN
  go_wp2_with fail
  have cr := cell_rg
  refine wp_region_quiet_below (by kernel_rfl) (by kernel_rfl) ?_
  repeat (quiet_step (first | (go_at_call 21; exact Calls.regrown_of (HTU.out _)) | (go_at_call 22; exact Calls.regrown_of (HTN.out _))))
  refine wpQuiet_nil ?_
  intro _ hw'
  obtain ⟨⟨dq, osq⟩, hw''⟩ := hw'
  subst hw''
  go_wp2
  go_ret3
  exact ⟨rfl, (HB3.out.alloc HB3.out.size _).trans ((below_regrown _ dq osq).mono (by have := HB3.out.size; simp; omega))⟩
set_option maxRecDepth 100000 in
set_option maxHeartbeats 2000000 in
theorem zzAtt_fail (zs : List Int) (n : Nat) (v : Value) (hl : n ≤ 131072) (b : Nat) (hb : b < n) (hb8 : b < 8) (hlim0 : ∀ j, j < 6 → Lim (zs.getD j 0)) (W : World) (hv : Cells.At W v (IntF zs) n) :
    Calls Tryz.prog 16 #[v, .int .i64 b] W fun e w' => e = .returned (.tuple #[.int .i64 (-62135596800), .int .i64 0, .bool true]) ∧ Below W.heap.size W w' := by
  have hlim := Lib.hid hlim0
  clear hlim0
  have hW := Lib.hid fun w (hv : Cells.At w v (IntF zs) n) => bad_some zs n v hl b hb w hv
  have HBB := Lib.hid hb
  have HV := Lib.hid hv
  clear hv
  go_enter Tryz.func16, Tryz.ntmps16
  go_wp2_with fail
  refine (hW.out _ HV.out).mono ?_
  rintro e w1 ⟨tx, rfl, hr1, hb1⟩
  have HR1 := Lib.hid hr1
  have HB1 := Lib.hid hb1
  clear hr1 hb1
  go_wp2_with fail
  refine (utc_any _).mono ?_
  rintro e w2 ⟨rfl, hb2, hc2, hz2, hl2⟩
  have HB2 := Lib.hid (HB1.out.trans (hb2.mono HB1.out.size))
  have HR2 := Lib.hid (row_at (c := n) (Cells.rowIs_later HR1.out hb2))
  have HC2 := Lib.hid hc2
  have HZ2 := Lib.hid hz2
  clear hb2 hc2 hz2
  go_wp2_with fail
  have hat := att_fail (putF (anyF zs) b (.iface 9 tx)) (fun i => zs.getD i 0) 0 n b hb hb8 (fun j hj _ => by unfold putF; rw [if_neg (by omega)]; rfl) (fun h => by unfold putF; rw [if_neg (by omega)]; have := hlim.out 5 (by decide); exact secOk_int _ (by unfold Lim at this; omega) (by unfold Lim at this; omega)) tx (if_pos rfl) _ w1.heap.size w2 HR2.out
  refine hat.mono ?_
  clear hat
  rintro e w3 ⟨⟨x, rfl⟩, hb3⟩
  have HB3 := Lib.hid (HB2.out.trans (hb3.mono HB2.out.size))
  clear hb3
  have HTU := Lib.hid fun w => (show Calls Tryz.prog 21 #[.agg #[.int .u64 0, .int .i64 0, .pointer none]] w fun e w' => e = .returned (.int .i64 (-62135596800)) ∧ Below w.heap.size w w' from tUnix 0 0 (by decide) (by decide) (by decide) w)
  have HTN := Lib.hid fun w => (show Calls Tryz.prog 22 #[.agg #[.int .u64 0, .int .i64 0, .pointer none]] w fun e w' => e = .returned (.int .i64 0) ∧ Below w.heap.size w w' from tNano 0 0 (by decide) w)
  go_wp2_with fail
  have cr := cell_rg
  refine wp_region_quiet_below (by kernel_rfl) (by kernel_rfl) ?_
  repeat (quiet_step (first | (go_at_call 21; exact Calls.regrown_of (HTU.out _)) | (go_at_call 22; exact Calls.regrown_of (HTN.out _))))
  refine wpQuiet_nil ?_
  intro _ hw'
  obtain ⟨⟨dq, osq⟩, hw''⟩ := hw'
  subst hw''
  go_wp2
  go_ret3
  exact ⟨rfl, (HB3.out.alloc HB3.out.size _).trans ((below_regrown _ dq osq).mono (by have := HB3.out.size; simp; omega))⟩
theorem ee_true (n b : Nat) (hb : b < n) (hb8 : b < 8) (hn : n ≤ 131072) (w : World) : Calls Tryz.prog 17 #[.int .i64 n, .int .i64 b] w fun e w' => e = .returned (.bool true) ∧ w = w' := by
  have i8 : (b : Int) < 8 := by omega
  by_cases c : 8 < n
  · go_enter Tryz.func17, Tryz.ntmps17
    go_wp2
    go_ret
    exact ⟨rfl, rfl⟩
  · go_enter Tryz.func17, Tryz.ntmps17
    go_wp2
    go_ret
    exact ⟨rfl, rfl⟩
theorem ee_false (n : Nat) (bad : Int) (hb : bad < 0 ∨ 8 ≤ bad ∨ (n : Int) ≤ bad) (hn : n ≤ 131072) (w : World) : Calls Tryz.prog 17 #[.int .i64 n, .int .i64 bad] w fun e w' => e = .returned (.bool false) ∧ w = w' := by
  by_cases c0 : bad < 0
  · have c1 : ¬ (0 ≤ bad) := by omega
    by_cases c : 8 < n
    · go_enter Tryz.func17, Tryz.ntmps17
      go_wp2
      go_ret
      exact ⟨rfl, rfl⟩
    · go_enter Tryz.func17, Tryz.ntmps17
      go_wp2
      go_ret
      exact ⟨rfl, rfl⟩
  · have c1 : 0 ≤ bad := by omega
    by_cases c : 8 < n
    · have c2 : ¬ (bad < 8) := by omega
      go_enter Tryz.func17, Tryz.ntmps17
      go_wp2
      go_ret
      exact ⟨rfl, rfl⟩
    · have c2 : ¬ (bad < (n : Int)) := by omega
      go_enter Tryz.func17, Tryz.ntmps17
      go_wp2
      go_ret
      exact ⟨rfl, rfl⟩
theorem zzbM_any (n cap : Nat) (a : Option Addr) (bad : Int) (h : n ≤ 1048576) (w : World) : Calls Tryz.prog 15 #[.slice a n cap, .int .i64 bad] w fun e w' => e = .returned (.bool true) ∧ w = w' := by
  go_enter Tryz.func15, Tryz.ntmps15
  go_wp2
  go_ret
  exact ⟨rfl, rfl⟩
theorem zzbM_big (n cap : Nat) (a : Option Addr) (bad : Int) (h : 1048576 < n) (w : World) : Calls Tryz.prog 15 #[.slice a n cap, .int .i64 bad] w fun e w' => e = .returned (.bool false) ∧ w = w' := by
  go_enter Tryz.func15, Tryz.ntmps15
  go_wp2
  go_ret
  exact ⟨rfl, rfl⟩
set_option maxRecDepth 100000 in
set_option maxHeartbeats 4000000 in
theorem walk_FnArrayToTimeMatchesCivilModel (W : World) (v : Value) (zs : List Int) (hv0 : IntArg W v zs) (hz : ∀ z ∈ zs, (Lit.int .i64 z).wf = true) (bad : Int) (wb : (Lit.int .i64 bad).wf = true) :
    Calls Tryz.prog 5 #[v, .int .i64 bad] W fun e w' => e = .returned (.bool true) ∧ Below W.heap.size W w' := by
  obtain ⟨n, hn⟩ : ∃ n, zs.length = n := ⟨_, rfl⟩
  have hv := at_intArg hv0
  rw [hn] at hv
  have HZS := Lib.hid hz
  have HN := Lib.hid hn
  have HWB := Lib.hid wb
  clear hv0 hz hn wb
  have HV := Lib.hid hv
  obtain ⟨a, cap, rfl, hcc⟩ := hv
  clear hcc
  by_cases c1 : 1048576 < n
  · go_enter Tryz.func5, Tryz.ntmps5
    go_wp2_with (go_at_call 15; refine (zzbM_big n cap a _ c1 _).mono ?_; rintro e w' ⟨rfl, rfl⟩)
    go_ret
    exact ⟨rfl, Below.refl _ _⟩
  have hm : n ≤ 1048576 := by omega
  by_cases c2 : 65536 < n
  · go_enter Tryz.func5, Tryz.ntmps5
    go_wp2_with (go_at_call 15; refine (zzbM_any n cap a _ hm _).mono ?_; rintro e w' ⟨rfl, rfl⟩)
    go_ret
    exact ⟨rfl, Below.refl _ _⟩
  have hnb : n ≤ 131072 := by omega
  have hfi : ∀ w, Cells.At w (.slice a n cap) (IntF zs) n → Calls Tryz.prog 7 #[.slice a n cap, .int .i64 6, .int .i64 1048576] w fun e w' => e = .returned (.bool (fieldsOk zs 6)) ∧ w = w' := fun w hv => fieldsIn_any zs n HN.out 6 (by decide) _ w HZS.out hm hv
  cases hok : fieldsOk zs 6 with
  | false =>
    rw [hok] at hfi
    have HFI := Lib.hid hfi
    clear hfi hok
    go_enter Tryz.func5, Tryz.ntmps5
    go_wp2_with (first | (go_at_call 15; refine (zzbM_any n cap a _ hm _).mono ?_; rintro e w' ⟨rfl, rfl⟩) | (go_at_call 7; refine (HFI.out _ HV.out).mono ?_; rintro e w' ⟨rfl, rfl⟩))
    go_ret
    exact ⟨rfl, Below.refl _ _⟩
  | true =>
    rw [hok] at hfi
    have HFI := Lib.hid hfi
    have HLIM : Hid (∀ j, j < 6 → Lim (zs.getD j 0)) := Lib.hid fun j hj => fieldsOk_mem hok hj
    clear hfi hok
    have hl0 := HLIM.out 0 (by decide)
    have hl1 := HLIM.out 1 (by decide)
    have hl2 := HLIM.out 2 (by decide)
    have hl3 := HLIM.out 3 (by decide)
    have hl4 := HLIM.out 4 (by decide)
    have hl5 := HLIM.out 5 (by decide)
    have HMO : Hid (∀ w v, Cells.At w v (IntF zs) n → Calls Tryz.prog 10 #[v, .bool true] w fun e w' => e = .returned (.int .i64 (inst zs)) ∧ w = w') := Lib.hid fun w v hv =>
      model_sec zs n HN.out v w hv _ _ _ _ _ _ rfl rfl rfl rfl rfl rfl (by unfold Lim at hl5; omega) (by unfold Lim at hl0; omega) (by unfold Lim at hl1; omega) (by unfold Lim at hl2; omega) (by unfold Lim at hl3; omega) (by unfold Lim at hl4; omega)
    clear hl0 hl1 hl2 hl3 hl4 hl5
    obtain ⟨I, hI⟩ : ∃ I, inst zs = I := ⟨_, rfl⟩
    rw [hI] at HMO
    have HI := Lib.hid hI
    clear hI
    by_cases cb : bad < 0 ∨ 8 ≤ bad ∨ (n : Int) ≤ bad
    · have hzz := fun w v hv => zzAtt_ok zs n HN.out v hnb bad cb HLIM.out w hv
      rw [HI.out] at hzz
      have HZZ := Lib.hid hzz
      have HEE := Lib.hid fun w => ee_false n bad cb hnb w
      clear hzz cb
      go_enter Tryz.func5, Tryz.ntmps5
      go_wp2_with (first | (go_at_call 15; refine (zzbM_any n cap a _ hm _).mono ?_; rintro e w' ⟨rfl, rfl⟩) | (go_at_call 7; refine (HFI.out _ HV.out).mono ?_; rintro e w' ⟨rfl, rfl⟩))
      refine (copy_any zs n _ hnb _ HV.out).mono ?_
      rintro e w0 ⟨⟨v0, rfl, hv0⟩, hb0⟩
      have HV0 := Lib.hid hv0
      have HB0 := Lib.hid hb0
      obtain ⟨a0, cap0, rfl, _⟩ := hv0
      clear hb0
      go_wp2_with fail
      refine (HZZ.out _ _ HV0.out).mono ?_
      rintro e w1 ⟨rfl, hb1⟩
      have HB1 := Lib.hid (HB0.out.trans (hb1.mono HB0.out.size))
      have HV1 := Lib.hid (HV0.out.later hb1)
      clear hb1
      go_wp2_with (first | (go_at_call 17; with_reducible refine (HEE.out _).mono ?_; rintro e w' ⟨rfl, rfl⟩) | (go_at_call 10; with_reducible refine (HMO.out _ _ HV1.out).mono ?_; rintro e w' ⟨rfl, rfl⟩))
      go_ret
      exact ⟨rfl, HB1.out⟩
    · obtain ⟨b, rfl⟩ : ∃ b : Nat, bad = b := ⟨bad.toNat, by omega⟩
      have HZZ := Lib.hid fun w v hv => zzAtt_fail zs n v hnb b (by omega) (by omega) HLIM.out w hv
      have HEE := Lib.hid fun w => ee_true n b (by omega) (by omega) hnb w
      clear cb
      go_enter Tryz.func5, Tryz.ntmps5
      go_wp2_with (first | (go_at_call 15; refine (zzbM_any n cap a _ hm _).mono ?_; rintro e w' ⟨rfl, rfl⟩) | (go_at_call 7; refine (HFI.out _ HV.out).mono ?_; rintro e w' ⟨rfl, rfl⟩))
      refine (copy_any zs n _ hnb _ HV.out).mono ?_
      rintro e w0 ⟨⟨v0, rfl, hv0⟩, hb0⟩
      have HV0 := Lib.hid hv0
      have HB0 := Lib.hid hb0
      obtain ⟨a0, cap0, rfl, _⟩ := hv0
      clear hb0
      go_wp2_with fail
      refine (HZZ.out _ _ HV0.out).mono ?_
      rintro e w1 ⟨rfl, hb1⟩
      have HB1 := Lib.hid (HB0.out.trans (hb1.mono HB0.out.size))
      clear hb1
      go_wp2_with (go_at_call 17; with_reducible refine (HEE.out _).mono ?_; rintro e w' ⟨rfl, rfl⟩)
      go_ret
      exact ⟨rfl, HB1.out⟩
end Go.Proofs.YtonbnmpleecegaaGreatDoor
