/- json.Number.Float64 at the decimal text of an int with '.000e-0' behind it. -/
import Derived.Test.YtngdcnljbfkneabGreatDoorPfE
import Derived.Test.YtngdcnljbfkneabGreatDoorRf7
import Derived.Test.YtngdcnljbfkneabGreatDoorRf9
namespace Go.Proofs.YtngdcnljbfkneabGreatDoor
open Go.RowKit Go.Dec Go.Lib

/-- What of the laid tables '.000' wants besides. -/
structure PfW3 (w : World) : Prop where
  base : PfW1 w
  t4 : w.cell? ⟨19, 690, none⟩ = some (.int .u64 9444732965739290428)
  t5 : w.cell? ⟨19, 691, none⟩ = some (.int .u64 11215620396815407382)
  tho : ∃ bk off cap, w.cell? ⟨17, 0, none⟩ = some (.slice (some ⟨bk, off, none⟩) 23 cap) ∧ bk < w.heap.size ∧ w.cell? ⟨bk, off + 3, none⟩ = some (.float .f64 4652007308841189376)
theorem PfW3.later {w w' : World} (h : PfW3 w) (hb : Below w.heap.size w w') : PfW3 w' := by
  obtain ⟨bk, off, cap, h1, h2, h3⟩ := h.tho
  exact ⟨h.base.later hb, (hb.cell (p := ⟨19, 690, none⟩) h.base.base.sz.1).trans h.t4, (hb.cell (p := ⟨19, 691, none⟩) h.base.base.sz.1).trans h.t5, ⟨bk, off, cap, (hb.cell (p := ⟨17, 0, none⟩) h.base.sz).trans h1, Nat.lt_of_lt_of_le h2 hb.size, (hb.cell (p := ⟨bk, off + 3, none⟩) h2).trans h3⟩⟩
set_option maxRecDepth 100000 in
set_option maxHeartbeats 2000000 in
theorem exact_milli (n : Nat) (neg : Bool) (h0 : 0 < n) (hd : 1000 * n < 4503599627370496) (w : World) (hp : PfW3 w) :
    ∃ V, FloatKey.Is V (sgi neg n) 0 ∧ Calls Tryz.prog 103 #[.int .u64 ((1000 * n : Nat) : Int), .int .i64 (-3), .bool neg] w fun e w' => e = .returned (.tuple #[.float .f64 V, .bool true]) ∧ w = w' := by
  have m0 := hp.base.base.mant
  obtain ⟨bk, off, cap, t0, _, t1⟩ := hp.tho
  have hi := is_sgi neg (1000 * n) (by omega) (by omega)
  have hs : sgi neg (1000 * n) = 1000 * sgi neg n := by unfold sgi; cases neg <;> simp <;> omega
  rw [hs] at hi
  obtain ⟨V, hV, hI⟩ := FloatKey.is_div1000 hi (by decide) (by unfold sgi; cases neg <;> simp <;> omega)
  refine ⟨V, hI, ?_⟩
  obtain ⟨d, hdd⟩ : ∃ d, 1000 * n = d := ⟨_, rfl⟩
  rw [hdd] at hd hV ⊢
  have hd0 : 0 < d := by omega
  clear hi hs hI hdd h0
  cases neg with
  | false =>
    rw [← ofInt_nat] at hV
    have k1 := fun (t : TypeId) w => run_float_arith (P := Tryz.prog) w .quo t .f64 _ _ _ hV
    clear hV
    go_enter Tryz.func103, Tryz.ntmps103
    go_wp2
    go_returns
    exact ⟨rfl, rfl⟩
  | true =>
    rw [← near_neg d (by omega), ← ofInt_nat] at hV
    have k1 := fun (t : TypeId) w => run_float_arith (P := Tryz.prog) w .quo t .f64 _ _ _ hV
    clear hV
    go_enter Tryz.func103, Tryz.ntmps103
    go_wp2
    go_returns
    exact ⟨rfl, rfl⟩
set_option maxRecDepth 100000 in
set_option maxHeartbeats 2000000 in
theorem exact_over3 (d : Nat) (neg : Bool) (hd : 4503599627370496 ≤ d) (hd2 : d ≤ 9223372036854775808) (w : World) (hp : PfW w) :
    Calls Tryz.prog 103 #[.int .u64 d, .int .i64 (-3), .bool neg] w fun e w' => e = .returned (.tuple #[.float .f64 0, .bool false]) ∧ w = w' := by
  have m0 := hp.mant
  go_enter Tryz.func103, Tryz.ntmps103
  go_wp2
  go_returns
  exact ⟨rfl, rfl⟩
/-- readFloat reads a thousand times the whole number, and the power -3. -/
def Reads3 (s : ByteArray) (d : Nat) (neg : Bool) : Prop :=
  (∀ w, Calls Tryz.prog 92 #[.string s] w fun e w' => e = .returned (.tuple #[.float .f64 0, .int .i64 0, .bool false]) ∧ w = w') ∧
  (∀ w, Calls Tryz.prog 93 #[.string s] w fun e w' => e = .returned (.tuple #[.int .u64 d, .int .i64 (-3), .bool neg, .bool false, .bool false, .int .i64 s.size, .bool true]) ∧ w = w')
set_option maxRecDepth 100000 in
set_option maxHeartbeats 4000000 in
theorem atof_milli (s : ByteArray) (n : Nat) (neg : Bool) (h0 : 0 < n) (hn : n ≤ 9007199254740992) (hr : Reads3 s (1000 * n) neg) (w : World) (hp : PfW3 w) : ∃ V, FloatKey.Is V (sgi neg n) 0 ∧ Atof s V w := by
  have H1 := Lib.hid hr.1
  have H2 := Lib.hid hr.2
  have HP := Lib.hid hp
  have ho := hp.base.base.opt
  unfold Atof
  obtain ⟨Z, hZ⟩ : ∃ Z : Nat, s.size = Z := ⟨_, rfl⟩
  rw [hZ] at H2
  rw [hZ]
  clear hr hp
  by_cases hb : 1000 * n < 4503599627370496
  · obtain ⟨V, hI, hE⟩ := exact_milli n neg h0 hb w HP.out
    refine ⟨V, hI, ?_⟩
    obtain ⟨d, hdd⟩ : ∃ d, 1000 * n = d := ⟨_, rfl⟩
    rw [hdd] at H2 hE hb
    have HE := Lib.hid hE
    have hnz : ((d : Int) == 0) = false := by simp; omega
    clear hE hI
    cases neg <;> (
      go_enter Tryz.func71, Tryz.ntmps71
      go_wp2_with (first | (go_at_call 92; refine (H1.out _).mono ?_; rintro e w' ⟨rfl, rfl⟩) | (go_at_call 93; refine (H2.out _).mono ?_; rintro e w' ⟨rfl, rfl⟩) | (go_at_call 101; refine (b2u _ _).mono ?_; rintro e w' ⟨rfl, rfl⟩) | (go_at_call 103; refine HE.out.mono ?_; rintro e w' ⟨rfl, rfl⟩))
      go_returns
      exact ⟨rfl, Below.refl _ _⟩)
  · refine ⟨Ieee.double.nearest neg n 0, is_sgi neg n hn h0, ?_⟩
    have HN := Lib.hid (parse_milli neg (1000 * n) n rfl (by omega) hn w HP.out.t4 HP.out.t5 HP.out.base.base.sz.1)
    obtain ⟨V, hV⟩ : ∃ V, Ieee.double.nearest neg n 0 = V := ⟨_, rfl⟩
    rw [hV] at HN ⊢
    obtain ⟨d, hdd⟩ : ∃ d, 1000 * n = d := ⟨_, rfl⟩
    rw [hdd] at H2 HN hb
    have HE := Lib.hid (exact_over3 d neg (by omega) (by omega) w HP.out.base.base)
    have hnz : ((d : Int) == 0) = false := by simp; omega
    clear hdd
    cases neg <;> (
      go_enter Tryz.func71, Tryz.ntmps71
      go_wp2_with (first | (go_at_call 92; refine (H1.out _).mono ?_; rintro e w' ⟨rfl, rfl⟩) | (go_at_call 93; refine (H2.out _).mono ?_; rintro e w' ⟨rfl, rfl⟩) | (go_at_call 101; refine (b2u _ _).mono ?_; rintro e w' ⟨rfl, rfl⟩) | (go_at_call 103; refine HE.out.mono ?_; rintro e w' ⟨rfl, rfl⟩) | (go_at_call 104; refine HN.out.mono ?_; rintro e w' ⟨rfl, hb1⟩; have HB1 := Lib.hid hb1; clear hb1))
      go_returns
      exact ⟨rfl, HB1.out⟩)
/-! ### '.000' and 'e-0' -/
theorem body_milli (u : Nat) (hu : 0 < u) (hb : u ≤ 9007199254740992) : RfOk (bodyOf u ++ [46, 48, 48, 48]) ∧ rfAt (bodyOf u ++ [46, 48, 48, 48]) (bodyOf u ++ [46, 48, 48, 48]).length = ⟨1000 * u, nDigits u + 3, true, true, nDigits u⟩ := by
  obtain ⟨hok, hn⟩ := body_ok u hu (by omega)
  have hl : (bodyOf u).length = nDigits u := body_len u
  have hp := nDigits_pos u
  have h16 : (10 : Nat) ^ 16 = 10000000000000000 := by decide
  have hn16 : nDigits u ≤ 16 := nd_le u 16 (by rw [h16]; omega) (by decide)
  have hlow : ∀ j, j ≤ nDigits u → rfAt (bodyOf u ++ [46, 48, 48, 48]) j = rfAt (bodyOf u) j := fun j hj => by
    unfold rfAt
    rw [List.take_append_of_le_length (by omega)]
  have hget : ∀ j, j < nDigits u → (bodyOf u ++ [46, 48, 48, 48]).getD j 0 = (bodyOf u).getD j 0 := fun j hj => by
    rw [List.getD_eq_getElem?_getD, List.getElem?_append_left (by omega), ← List.getD_eq_getElem?_getD]
  have hgt : ∀ q, (bodyOf u ++ [46, 48, 48, 48]).getD (nDigits u + q) 0 = [46, 48, 48, 48].getD q 0 := fun q => by
    rw [List.getD_eq_getElem?_getD, List.getElem?_append_right (by omega), hl, show nDigits u + q - nDigits u = q by omega, ← List.getD_eq_getElem?_getD]
  have hg0 : (bodyOf u ++ [46, 48, 48, 48]).getD (nDigits u) 0 = 46 := hgt 0
  have hg1 : (bodyOf u ++ [46, 48, 48, 48]).getD (nDigits u + 1) 0 = 48 := hgt 1
  have hg2 : (bodyOf u ++ [46, 48, 48, 48]).getD (nDigits u + 2) 0 = 48 := hgt 2
  have hg3 : (bodyOf u ++ [46, 48, 48, 48]).getD (nDigits u + 3) 0 = 48 := hgt 3
  have hlen : (bodyOf u ++ [46, 48, 48, 48]).length = nDigits u + 4 := by rw [List.length_append, hl]; rfl
  have hend := body_end u hu
  rw [hl] at hend
  have e0 : rfAt (bodyOf u ++ [46, 48, 48, 48]) (nDigits u) = ⟨u, nDigits u, false, true, 0⟩ := (hlow _ (Nat.le_refl _)).trans hend
  have e1 : rfAt (bodyOf u ++ [46, 48, 48, 48]) (nDigits u + 1) = ⟨u, nDigits u, true, true, nDigits u⟩ := by
    rw [rfAt_succ _ _ (by omega), e0, hg0]
    unfold rfStep
    rw [if_pos rfl]
  have e2 : rfAt (bodyOf u ++ [46, 48, 48, 48]) (nDigits u + 2) = ⟨10 * u, nDigits u + 1, true, true, nDigits u⟩ := by
    rw [rfAt_succ _ _ (by omega), e1, hg1]
    unfold rfStep
    rw [if_neg (by decide), if_neg (show ¬((48 : Nat) = 48 ∧ nDigits u = 0) from by omega)]
    simp
    omega
  have e3 : rfAt (bodyOf u ++ [46, 48, 48, 48]) (nDigits u + 3) = ⟨100 * u, nDigits u + 2, true, true, nDigits u⟩ := by
    rw [rfAt_succ _ _ (by omega), e2, hg2]
    unfold rfStep
    rw [if_neg (by decide), if_neg (show ¬((48 : Nat) = 48 ∧ nDigits u + 1 = 0) from by omega)]
    simp
    omega
  have e4 : rfAt (bodyOf u ++ [46, 48, 48, 48]) (nDigits u + 4) = ⟨1000 * u, nDigits u + 3, true, true, nDigits u⟩ := by
    rw [rfAt_succ _ _ (by omega), e3, hg3]
    unfold rfStep
    rw [if_neg (by decide), if_neg (show ¬((48 : Nat) = 48 ∧ nDigits u + 2 = 0) from by omega)]
    simp
    omega
  refine ⟨fun j hj => ?_, by rw [hlen]; exact e4⟩
  rw [hlen] at hj
  by_cases c1 : j < nDigits u
  · rw [hget j c1, hlow j (by omega)]
    exact hok j (by omega)
  · rcases (show j = nDigits u ∨ j = nDigits u + 1 ∨ j = nDigits u + 2 ∨ j = nDigits u + 3 by omega) with rfl | rfl | rfl | rfl
    · rw [hg0, e0]
      exact Or.inl ⟨rfl, rfl⟩
    · rw [hg1, e1]
      refine Or.inr ⟨by decide, by decide, ?_, ?_⟩
      · show nDigits u < 19; omega
      · show u < 1000000000000000000; omega
    · rw [hg2, e2]
      refine Or.inr ⟨by decide, by decide, ?_, ?_⟩
      · show nDigits u + 1 < 19; omega
      · show 10 * u < 1000000000000000000; omega
    · rw [hg3, e3]
      refine Or.inr ⟨by decide, by decide, ?_, ?_⟩
      · show nDigits u + 2 < 19; omega
      · show 100 * u < 1000000000000000000; omega
theorem milli_head (u : Nat) (hu : 0 < u) : (bodyOf u ++ [46, 48, 48, 48]).getD 0 0 ≠ 48 := by
  have h := body_head u hu
  have hp := nDigits_pos u
  rw [List.getD_eq_getElem?_getD, List.getElem?_append_left (by rw [body_len]; omega), ← List.getD_eq_getElem?_getD]
  exact h
theorem regroup (u : Nat) : decDigits u ++ [46, 48, 48, 48, 101, 45, 48] = (decDigits u ++ [46, 48, 48, 48]) ++ [101, 45, 48] := by rw [List.append_assoc]; rfl
theorem reads3_pos (u : Nat) (hu : 0 < u) (hb : u ≤ 9007199254740992) : Reads3 ⟨([] ++ (decDigits u ++ [46, 48, 48, 48, 101, 45, 48])).toArray⟩ (1000 * u) false := by
  obtain ⟨hok, hend⟩ := body_milli u hu hb
  have hp := nDigits_pos u
  obtain ⟨_, hn⟩ := body_ok u hu (by omega)
  have hlen : (bodyOf u ++ [46, 48, 48, 48]).length = nDigits u + 4 := by rw [List.length_append, body_len]; rfl
  have hlu : (decDigits u ++ [46, 48, 48, 48] : List UInt8).length = (bodyOf u ++ [46, 48, 48, 48]).length := by rw [hlen, List.length_append, dec_len]; rfl
  have hm : (decDigits u ++ [46, 48, 48, 48]).map (fun c : UInt8 => c.toNat) = bodyOf u ++ [46, 48, 48, 48] := by rw [List.map_append]; rfl
  refine ⟨fun w => spec_pos u hu (by omega) [46, 48, 48, 48, 101, 45, 48] (by decide) w, fun w => ?_⟩
  rw [regroup]
  have hst := stands_of [] (decDigits u ++ [46, 48, 48, 48]) [101, 45, 48]
  have hsz := sz_of [] (decDigits u ++ [46, 48, 48, 48]) [101, 45, 48]
  rw [hm] at hst hsz
  exact rf_pnem0 ⟨([] ++ ((decDigits u ++ [46, 48, 48, 48]) ++ [101, 45, 48])).toArray⟩ (bodyOf u ++ [46, 48, 48, 48]) hsz hst (by have := tl_get [] (decDigits u ++ [46, 48, 48, 48]) [101, 45, 48] 0; rw [hlu, show ([] : List UInt8).length = 0 from rfl] at this; exact congrArg UInt8.toNat this) (by have := tl_get [] (decDigits u ++ [46, 48, 48, 48]) [101, 45, 48] 1; rw [hlu, show ([] : List UInt8).length = 0 from rfl] at this; exact congrArg UInt8.toNat this) (by have := tl_get [] (decDigits u ++ [46, 48, 48, 48]) [101, 45, 48] 2; rw [hlu, show ([] : List UInt8).length = 0 from rfl] at this; exact congrArg UInt8.toNat this) hok (by omega) (by omega) (milli_head u hu) (1000 * u) (nDigits u + 3) true (nDigits u) hend (by omega) (-3) (by simp; omega) w
theorem reads3_neg (u : Nat) (hu : 0 < u) (hb : u ≤ 9007199254740992) : Reads3 ⟨([45] ++ (decDigits u ++ [46, 48, 48, 48, 101, 45, 48])).toArray⟩ (1000 * u) true := by
  obtain ⟨hok, hend⟩ := body_milli u hu hb
  have hp := nDigits_pos u
  obtain ⟨_, hn⟩ := body_ok u hu (by omega)
  have hlen : (bodyOf u ++ [46, 48, 48, 48]).length = nDigits u + 4 := by rw [List.length_append, body_len]; rfl
  have hlu : (decDigits u ++ [46, 48, 48, 48] : List UInt8).length = (bodyOf u ++ [46, 48, 48, 48]).length := by rw [hlen, List.length_append, dec_len]; rfl
  have hm : (decDigits u ++ [46, 48, 48, 48]).map (fun c : UInt8 => c.toNat) = bodyOf u ++ [46, 48, 48, 48] := by rw [List.map_append]; rfl
  refine ⟨fun w => spec_neg u hu (by omega) [46, 48, 48, 48, 101, 45, 48] (by decide) w, fun w => ?_⟩
  rw [regroup]
  have hst := stands_of [45] (decDigits u ++ [46, 48, 48, 48]) [101, 45, 48]
  have hsz := sz_of [45] (decDigits u ++ [46, 48, 48, 48]) [101, 45, 48]
  rw [hm] at hst hsz
  exact rf_mnem0 ⟨([45] ++ ((decDigits u ++ [46, 48, 48, 48]) ++ [101, 45, 48])).toArray⟩ (bodyOf u ++ [46, 48, 48, 48]) hsz hst rfl (by have := tl_get [45] (decDigits u ++ [46, 48, 48, 48]) [101, 45, 48] 0; rw [hlu, show ([45] : List UInt8).length = 1 from rfl] at this; exact congrArg UInt8.toNat this) (by have := tl_get [45] (decDigits u ++ [46, 48, 48, 48]) [101, 45, 48] 1; rw [hlu, show ([45] : List UInt8).length = 1 from rfl] at this; exact congrArg UInt8.toNat this) (by have := tl_get [45] (decDigits u ++ [46, 48, 48, 48]) [101, 45, 48] 2; rw [hlu, show ([45] : List UInt8).length = 1 from rfl] at this; exact congrArg UInt8.toNat this) hok (by omega) (by omega) (milli_head u hu) (1000 * u) (nDigits u + 3) true (nDigits u) hend (by omega) (-3) (by simp; omega) w
theorem atof_nil_milli (w : World) (hp : PfW1 w) : Atof ⟨([48] ++ [46, 48, 48, 48, 101, 45, 48] : List UInt8).toArray⟩ 0 w := by
  have H1 : Hid (∀ w, Calls Tryz.prog 92 #[.string ⟨([48] ++ [46, 48, 48, 48, 101, 45, 48] : List UInt8).toArray⟩] w fun e w' => e = .returned (.tuple #[.float .f64 0, .int .i64 0, .bool false]) ∧ w = w') := Lib.hid fun w => special_digit ⟨([48] ++ [46, 48, 48, 48, 101, 45, 48] : List UInt8).toArray⟩ 48 (by decide) (by decide) rfl (by decide) (by decide) w
  have H2 : Hid (∀ w, Calls Tryz.prog 93 #[.string ⟨([48] ++ [46, 48, 48, 48, 101, 45, 48] : List UInt8).toArray⟩] w fun e w' => e = .returned (.tuple #[.int .u64 0, .int .i64 0, .bool false, .bool false, .bool false, .int .i64 (⟨([48] ++ [46, 48, 48, 48, 101, 45, 48] : List UInt8).toArray⟩ : ByteArray).size, .bool true]) ∧ w = w') := Lib.hid fun w => by
    have hz : ∀ j, j < [48, 46, 48, 48, 48].length → j = 0 ∨ j = 1 ∨ j = 2 ∨ j = 3 ∨ j = 4 := fun j hj => by
      have : j < 5 := hj
      omega
    exact rf_pcdm0 ⟨([48] ++ [46, 48, 48, 48, 101, 45, 48] : List UInt8).toArray⟩ [48, 46, 48, 48, 48] rfl ⟨by decide, fun j hj => by rcases hz j hj with rfl | rfl | rfl | rfl | rfl <;> rfl⟩ rfl rfl rfl (fun j hj => by
      rcases hz j hj with rfl | rfl | rfl | rfl | rfl
      · exact Or.inr ⟨by decide, by decide, by decide, by decide⟩
      · exact Or.inl ⟨rfl, rfl⟩
      all_goals exact Or.inr ⟨by decide, by decide, by decide, by decide⟩) (by decide) (by decide) rfl rfl (by decide) 0 0 true (-3) (by rfl) rfl w
  have ho := hp.base.opt
  unfold Atof
  clear hp
  obtain ⟨S, hS⟩ : ∃ S : ByteArray, ⟨([48] ++ [46, 48, 48, 48, 101, 45, 48] : List UInt8).toArray⟩ = S := ⟨_, rfl⟩
  rw [hS] at H1 H2 ⊢
  obtain ⟨Z, hZ⟩ : ∃ Z : Nat, S.size = Z := ⟨_, rfl⟩
  rw [hZ] at H2 ⊢
  go_enter Tryz.func71, Tryz.ntmps71
  go_wp2_with (first | (go_at_call 92; refine (H1.out _).mono ?_; rintro e w' ⟨rfl, rfl⟩) | (go_at_call 93; refine (H2.out _).mono ?_; rintro e w' ⟨rfl, rfl⟩) | (go_at_call 101; refine (b2u _ _).mono ?_; rintro e w' ⟨rfl, rfl⟩))
  go_returns
  exact ⟨rfl, Below.refl _ _⟩
theorem num_milli (n : Int) (hn : n.natAbs ≤ 9007199254740992) (w : World) (hp : PfW3 w) : NumF (tx n [46, 48, 48, 48, 101, 45, 48]) n w := by
  rcases Int.lt_trichotomy n 0 with h | h | h
  · obtain ⟨V, hI, hA⟩ := atof_milli (tx n [46, 48, 48, 48, 101, 45, 48]) n.natAbs true (by omega) hn (by unfold tx; rw [itoa_neg h]; exact reads3_neg n.natAbs (by omega) hn) w hp
    rw [show sgi true n.natAbs = n from by show -((n.natAbs : Nat) : Int) = n; omega] at hI
    exact ⟨V, hI, num_of _ V w hA⟩
  · subst h
    refine ⟨0, zero_is, num_of _ 0 w ?_⟩
    unfold tx
    rw [itoa_nil]
    exact atof_nil_milli w hp.base
  · obtain ⟨V, hI, hA⟩ := atof_milli (tx n [46, 48, 48, 48, 101, 45, 48]) n.natAbs false (by omega) hn (by unfold tx; rw [itoa_pos h]; exact reads3_pos n.natAbs (by omega) hn) w hp
    rw [show sgi false n.natAbs = n from by show ((n.natAbs : Nat) : Int) = n; omega] at hI
    exact ⟨V, hI, num_of _ V w hA⟩
end Go.Proofs.YtngdcnljbfkneabGreatDoor
