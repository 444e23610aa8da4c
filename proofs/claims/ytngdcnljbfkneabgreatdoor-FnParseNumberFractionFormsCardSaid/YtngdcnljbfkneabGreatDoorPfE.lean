/- json.Number.Float64 at the decimal text of an int with a tail: '.0', 'e0', 'E+00': the float64 equal to the int. -/
import Derived.Test.YtngdcnljbfkneabGreatDoorPfC
import Derived.Test.YtngdcnljbfkneabGreatDoorPfD
import Derived.Test.YtngdcnljbfkneabGreatDoorRf3
import Derived.Test.YtngdcnljbfkneabGreatDoorRf4
import Derived.Test.YtngdcnljbfkneabGreatDoorRf5
import Derived.Test.YtngdcnljbfkneabGreatDoorRf6
namespace Go.Proofs.YtngdcnljbfkneabGreatDoor
open Go.RowKit Go.Dec Go.Lib

/-- The text of n, and a tail. -/
def tx (n : Int) (tail : List UInt8) : ByteArray := ⟨(Lib.itoa n ++ tail).toArray⟩
def NumF (s : ByteArray) (n : Int) (w : World) : Prop :=
  ∃ V, FloatKey.Is V n 0 ∧ Calls Tryz.prog 18 #[.string s] w fun e w' => e = .returned (.tuple #[.float .f64 V, .nilIface]) ∧ Below w.heap.size w w'
theorem itoa_neg {n : Int} (h : n < 0) : Lib.itoa n = 45 :: decDigits n.natAbs := by unfold Lib.itoa; rw [if_pos h]
theorem itoa_pos {n : Int} (h : 0 < n) : Lib.itoa n = decDigits n.natAbs := by unfold Lib.itoa; rw [if_neg (by omega), show n.toNat = n.natAbs by omega]
theorem itoa_nil : Lib.itoa 0 = [48] := by
  unfold Lib.itoa
  rw [if_neg (by decide), Lib.decDigits_eq, show (0 : Int).toNat = 0 from rfl, Lib.nDigits_small (by decide)]
  rfl
/-! ### where the bytes stand: pre ++ digits ++ tail -/
theorem tl_get (pre ds tail : List UInt8) (q : Nat) : (pre ++ (ds ++ tail)).getD (pre.length + ds.length + q) 0 = tail.getD q 0 := by
  rw [List.getD_eq_getElem?_getD, List.getD_eq_getElem?_getD, List.getElem?_append_right (by omega), List.getElem?_append_right (by omega)]
  congr 2
  omega
theorem ds_get (pre ds tail : List UInt8) (j : Nat) (h : j < ds.length) : (pre ++ (ds ++ tail)).getD (pre.length + j) 0 = ds.getD j 0 := by
  rw [List.getD_eq_getElem?_getD, List.getD_eq_getElem?_getD, List.getElem?_append_right (by omega), List.getElem?_append_left (by omega)]
  congr 2
  omega
theorem stands_of (pre ds tail : List UInt8) : Stands ⟨(pre ++ (ds ++ tail)).toArray⟩ pre.length (ds.map (·.toNat)) := by
  refine ⟨?_, fun j hj => ?_⟩
  · show _ ≤ (pre ++ (ds ++ tail)).length
    simp
  · rw [List.length_map] at hj
    show ((pre ++ (ds ++ tail)).getD (pre.length + j) 0).toNat = _
    rw [ds_get _ _ _ _ hj, list_nat]
theorem sz_of (pre ds tail : List UInt8) : (⟨(pre ++ (ds ++ tail)).toArray⟩ : ByteArray).size = pre.length + (ds.map (·.toNat)).length + tail.length := by
  show (pre ++ (ds ++ tail)).length = _
  simp
  omega
/-- The text begins as a number does. -/
theorem spec_pos (u : Nat) (hu : 0 < u) (hb : u ≤ 9223372036854775808) (tail : List UInt8) (ht : tail.length ≤ 100) (w : World) :
    Calls Tryz.prog 92 #[.string ⟨([] ++ (decDigits u ++ tail)).toArray⟩] w fun e w' => e = .returned (.tuple #[.float .f64 0, .int .i64 0, .bool false]) ∧ w = w' := by
  obtain ⟨_, hn⟩ := body_ok u hu hb
  have hp := nDigits_pos u
  have hg : (((⟨([] ++ (decDigits u ++ tail)).toArray⟩ : ByteArray).data.toList.getD 0 0).toNat : Int) = ((bodyOf u).getD 0 0 : Nat) := by
    have := ds_get [] (decDigits u) tail 0 (by rw [dec_len]; exact hp)
    show ((([] ++ (decDigits u ++ tail)).getD 0 0).toNat : Int) = _
    rw [show (0 : Nat) = ([] : List UInt8).length + 0 from rfl, this, list_nat]
    rfl
  have hd := body_get u 0 hp
  have hm : u / 10 ^ (nDigits u - 1 - 0) % 10 < 10 := Nat.mod_lt _ (by decide)
  have hsz := sz_of [] (decDigits u) tail
  rw [List.length_map, dec_len] at hsz
  exact special_digit _ _ (by rw [hsz]; omega) (by rw [hsz]; show 0 + nDigits u + tail.length ≤ 1000; omega) hg (by omega) (by omega) w
theorem spec_neg (u : Nat) (hu : 0 < u) (hb : u ≤ 9223372036854775808) (tail : List UInt8) (ht : tail.length ≤ 100) (w : World) :
    Calls Tryz.prog 92 #[.string ⟨([45] ++ (decDigits u ++ tail)).toArray⟩] w fun e w' => e = .returned (.tuple #[.float .f64 0, .int .i64 0, .bool false]) ∧ w = w' := by
  obtain ⟨_, hn⟩ := body_ok u hu hb
  have hp := nDigits_pos u
  have hg : (((⟨([45] ++ (decDigits u ++ tail)).toArray⟩ : ByteArray).data.toList.getD 1 0).toNat : Int) = ((bodyOf u).getD 0 0 : Nat) := by
    have := ds_get [45] (decDigits u) tail 0 (by rw [dec_len]; exact hp)
    show ((([45] ++ (decDigits u ++ tail)).getD 1 0).toNat : Int) = _
    rw [show (1 : Nat) = ([45] : List UInt8).length + 0 from rfl, this, list_nat]
    rfl
  have hd := body_get u 0 hp
  have hm : u / 10 ^ (nDigits u - 1 - 0) % 10 < 10 := Nat.mod_lt _ (by decide)
  have hsz := sz_of [45] (decDigits u) tail
  rw [List.length_map, dec_len] at hsz
  exact special_minus _ _ (by rw [hsz]; show 1 < 1 + nDigits u + tail.length; omega) (by rw [hsz]; show 1 + nDigits u + tail.length ≤ 1000; omega) rfl hg (by omega) (by omega) w
theorem reads_pos_e0 (u : Nat) (hu : 0 < u) (hb : u ≤ 9223372036854775808) : Reads ⟨([] ++ (decDigits u ++ [101, 48])).toArray⟩ u false := by
  obtain ⟨hok, hn⟩ := body_ok u hu hb
  have hp := nDigits_pos u
  have hl : (bodyOf u).length = nDigits u := body_len u
  refine ⟨fun w => spec_pos u hu hb [101, 48] (by decide) w, fun w => ?_⟩
  exact rf_pnee0 ⟨([] ++ (decDigits u ++ [101, 48])).toArray⟩ (bodyOf u) (sz_of [] (decDigits u) [101, 48]) (stands_of [] (decDigits u) [101, 48]) (by have := tl_get [] (decDigits u) [101, 48] 0; rw [show (([] : List UInt8).length + (decDigits u).length + 0) = 0 + (bodyOf u).length + 0 from by rw [hl, dec_len]; rfl] at this; exact congrArg UInt8.toNat this) (by have := tl_get [] (decDigits u) [101, 48] 1; rw [show (([] : List UInt8).length + (decDigits u).length + 1) = 0 + (bodyOf u).length + 1 from by rw [hl, dec_len]; rfl] at this; exact congrArg UInt8.toNat this)
    hok (by omega) (by omega) (body_head u hu) u (nDigits u) false 0 (body_end u hu) (by omega) 0 (by simp) w
theorem reads_neg_e0 (u : Nat) (hu : 0 < u) (hb : u ≤ 9223372036854775808) : Reads ⟨([45] ++ (decDigits u ++ [101, 48])).toArray⟩ u true := by
  obtain ⟨hok, hn⟩ := body_ok u hu hb
  have hp := nDigits_pos u
  have hl : (bodyOf u).length = nDigits u := body_len u
  refine ⟨fun w => spec_neg u hu hb [101, 48] (by decide) w, fun w => ?_⟩
  exact rf_mnee0 ⟨([45] ++ (decDigits u ++ [101, 48])).toArray⟩ (bodyOf u) (sz_of [45] (decDigits u) [101, 48]) (stands_of [45] (decDigits u) [101, 48]) rfl (by have := tl_get [45] (decDigits u) [101, 48] 0; rw [show (([45] : List UInt8).length + (decDigits u).length + 0) = 1 + (bodyOf u).length + 0 from by rw [hl, dec_len]; rfl] at this; exact congrArg UInt8.toNat this) (by have := tl_get [45] (decDigits u) [101, 48] 1; rw [show (([45] : List UInt8).length + (decDigits u).length + 1) = 1 + (bodyOf u).length + 1 from by rw [hl, dec_len]; rfl] at this; exact congrArg UInt8.toNat this)
    hok (by omega) (by omega) (body_head u hu) u (nDigits u) false 0 (body_end u hu) (by omega) 0 (by simp) w
theorem reads_pos_E00 (u : Nat) (hu : 0 < u) (hb : u ≤ 9223372036854775808) : Reads ⟨([] ++ (decDigits u ++ [69, 43, 48, 48])).toArray⟩ u false := by
  obtain ⟨hok, hn⟩ := body_ok u hu hb
  have hp := nDigits_pos u
  have hl : (bodyOf u).length = nDigits u := body_len u
  refine ⟨fun w => spec_pos u hu hb [69, 43, 48, 48] (by decide) w, fun w => ?_⟩
  exact rf_pneE00 ⟨([] ++ (decDigits u ++ [69, 43, 48, 48])).toArray⟩ (bodyOf u) (sz_of [] (decDigits u) [69, 43, 48, 48]) (stands_of [] (decDigits u) [69, 43, 48, 48]) (by have := tl_get [] (decDigits u) [69, 43, 48, 48] 0; rw [show (([] : List UInt8).length + (decDigits u).length + 0) = 0 + (bodyOf u).length + 0 from by rw [hl, dec_len]; rfl] at this; exact congrArg UInt8.toNat this) (by have := tl_get [] (decDigits u) [69, 43, 48, 48] 1; rw [show (([] : List UInt8).length + (decDigits u).length + 1) = 0 + (bodyOf u).length + 1 from by rw [hl, dec_len]; rfl] at this; exact congrArg UInt8.toNat this) (by have := tl_get [] (decDigits u) [69, 43, 48, 48] 2; rw [show (([] : List UInt8).length + (decDigits u).length + 2) = 0 + (bodyOf u).length + 2 from by rw [hl, dec_len]; rfl] at this; exact congrArg UInt8.toNat this) (by have := tl_get [] (decDigits u) [69, 43, 48, 48] 3; rw [show (([] : List UInt8).length + (decDigits u).length + 3) = 0 + (bodyOf u).length + 3 from by rw [hl, dec_len]; rfl] at this; exact congrArg UInt8.toNat this)
    hok (by omega) (by omega) (body_head u hu) u (nDigits u) false 0 (body_end u hu) (by omega) 0 (by simp) w
theorem reads_neg_E00 (u : Nat) (hu : 0 < u) (hb : u ≤ 9223372036854775808) : Reads ⟨([45] ++ (decDigits u ++ [69, 43, 48, 48])).toArray⟩ u true := by
  obtain ⟨hok, hn⟩ := body_ok u hu hb
  have hp := nDigits_pos u
  have hl : (bodyOf u).length = nDigits u := body_len u
  refine ⟨fun w => spec_neg u hu hb [69, 43, 48, 48] (by decide) w, fun w => ?_⟩
  exact rf_mneE00 ⟨([45] ++ (decDigits u ++ [69, 43, 48, 48])).toArray⟩ (bodyOf u) (sz_of [45] (decDigits u) [69, 43, 48, 48]) (stands_of [45] (decDigits u) [69, 43, 48, 48]) rfl (by have := tl_get [45] (decDigits u) [69, 43, 48, 48] 0; rw [show (([45] : List UInt8).length + (decDigits u).length + 0) = 1 + (bodyOf u).length + 0 from by rw [hl, dec_len]; rfl] at this; exact congrArg UInt8.toNat this) (by have := tl_get [45] (decDigits u) [69, 43, 48, 48] 1; rw [show (([45] : List UInt8).length + (decDigits u).length + 1) = 1 + (bodyOf u).length + 1 from by rw [hl, dec_len]; rfl] at this; exact congrArg UInt8.toNat this) (by have := tl_get [45] (decDigits u) [69, 43, 48, 48] 2; rw [show (([45] : List UInt8).length + (decDigits u).length + 2) = 1 + (bodyOf u).length + 2 from by rw [hl, dec_len]; rfl] at this; exact congrArg UInt8.toNat this) (by have := tl_get [45] (decDigits u) [69, 43, 48, 48] 3; rw [show (([45] : List UInt8).length + (decDigits u).length + 3) = 1 + (bodyOf u).length + 3 from by rw [hl, dec_len]; rfl] at this; exact congrArg UInt8.toNat this)
    hok (by omega) (by omega) (body_head u hu) u (nDigits u) false 0 (body_end u hu) (by omega) 0 (by simp) w
theorem reads_nil_e0 : Reads ⟨([48] ++ [101, 48] : List UInt8).toArray⟩ 0 false := by
  refine ⟨fun w => special_digit ⟨([48] ++ [101, 48] : List UInt8).toArray⟩ 48 (by decide) (by decide) rfl (by decide) (by decide) w, fun w => ?_⟩
  have hz : ∀ j, j < [48].length → j = 0 := fun j hj => by rw [List.length_singleton] at hj; omega
  exact rf_pcee0 ⟨([48] ++ [101, 48] : List UInt8).toArray⟩ [48] rfl ⟨by decide, fun j hj => by rw [hz j hj]; rfl⟩ rfl rfl (fun j hj => by
      rw [hz j hj]
      exact Or.inr ⟨by decide, by decide, by decide, by decide⟩) (by decide) (by decide) rfl rfl (by decide) 0 0 false (-1) (by rfl) rfl w
theorem reads_nil_E00 : Reads ⟨([48] ++ [69, 43, 48, 48] : List UInt8).toArray⟩ 0 false := by
  refine ⟨fun w => special_digit ⟨([48] ++ [69, 43, 48, 48] : List UInt8).toArray⟩ 48 (by decide) (by decide) rfl (by decide) (by decide) w, fun w => ?_⟩
  have hz : ∀ j, j < [48].length → j = 0 := fun j hj => by rw [List.length_singleton] at hj; omega
  exact rf_pcEE00 ⟨([48] ++ [69, 43, 48, 48] : List UInt8).toArray⟩ [48] rfl ⟨by decide, fun j hj => by rw [hz j hj]; rfl⟩ rfl rfl rfl rfl (fun j hj => by
      rw [hz j hj]
      exact Or.inr ⟨by decide, by decide, by decide, by decide⟩) (by decide) (by decide) rfl rfl (by decide) 0 0 false (-1) (by rfl) rfl w
/-! ### '.0' -/
theorem body_dot (u : Nat) (hu : 0 < u) (hb : u ≤ 9007199254740992) : RfOk (bodyOf u ++ [46, 48]) ∧ rfAt (bodyOf u ++ [46, 48]) (bodyOf u ++ [46, 48]).length = ⟨10 * u, nDigits u + 1, true, true, nDigits u⟩ := by
  obtain ⟨hok, hn⟩ := body_ok u hu (by omega)
  have hl : (bodyOf u).length = nDigits u := body_len u
  have hp := nDigits_pos u
  have h16 : (10 : Nat) ^ 16 = 10000000000000000 := by decide
  have hn16 : nDigits u ≤ 16 := nd_le u 16 (by rw [h16]; omega) (by decide)
  have hlow : ∀ j, j ≤ nDigits u → rfAt (bodyOf u ++ [46, 48]) j = rfAt (bodyOf u) j := fun j hj => by
    unfold rfAt
    rw [List.take_append_of_le_length (by omega)]
  have hget : ∀ j, j < nDigits u → (bodyOf u ++ [46, 48]).getD j 0 = (bodyOf u).getD j 0 := fun j hj => by
    rw [List.getD_eq_getElem?_getD, List.getElem?_append_left (by omega), ← List.getD_eq_getElem?_getD]
  have hg1 : (bodyOf u ++ [46, 48]).getD (nDigits u) 0 = 46 := by
    rw [List.getD_eq_getElem?_getD, List.getElem?_append_right (by omega), hl, Nat.sub_self]; rfl
  have hg2 : (bodyOf u ++ [46, 48]).getD (nDigits u + 1) 0 = 48 := by
    rw [List.getD_eq_getElem?_getD, List.getElem?_append_right (by omega), hl, show nDigits u + 1 - nDigits u = 1 by omega]; rfl
  have hlen : (bodyOf u ++ [46, 48]).length = nDigits u + 2 := by rw [List.length_append, hl]; rfl
  have hend := body_end u hu
  rw [hl] at hend
  have e0 : rfAt (bodyOf u ++ [46, 48]) (nDigits u) = ⟨u, nDigits u, false, true, 0⟩ := (hlow _ (Nat.le_refl _)).trans hend
  have e1 : rfAt (bodyOf u ++ [46, 48]) (nDigits u + 1) = ⟨u, nDigits u, true, true, nDigits u⟩ := by
    rw [rfAt_succ _ _ (by omega), e0, hg1]
    unfold rfStep
    rw [if_pos rfl]
  have e2 : rfAt (bodyOf u ++ [46, 48]) (nDigits u + 2) = ⟨10 * u, nDigits u + 1, true, true, nDigits u⟩ := by
    rw [rfAt_succ _ _ (by omega), e1, hg2]
    unfold rfStep
    rw [if_neg (by decide), if_neg (show ¬((48 : Nat) = 48 ∧ nDigits u = 0) from by omega)]
    simp
    omega
  refine ⟨fun j hj => ?_, by rw [hlen]; exact e2⟩
  rw [hlen] at hj
  by_cases c1 : j < nDigits u
  · rw [hget j c1, hlow j (by omega)]
    exact hok j (by omega)
  · by_cases c2 : j = nDigits u
    · subst c2
      rw [hg1, e0]
      exact Or.inl ⟨rfl, rfl⟩
    · obtain rfl : j = nDigits u + 1 := by omega
      rw [hg2, e1]
      refine Or.inr ⟨by decide, by decide, ?_, ?_⟩
      · show nDigits u < 19; omega
      · show u < 1000000000000000000; omega
theorem dot_head (u : Nat) (hu : 0 < u) : (bodyOf u ++ [46, 48]).getD 0 0 ≠ 48 := by
  have h := body_head u hu
  have hp := nDigits_pos u
  rw [List.getD_eq_getElem?_getD, List.getElem?_append_left (by rw [body_len]; omega), ← List.getD_eq_getElem?_getD]
  exact h
theorem reads1_pos (u : Nat) (hu : 0 < u) (hb : u ≤ 9007199254740992) : Reads1 ⟨([] ++ (decDigits u ++ [46, 48])).toArray⟩ (10 * u) false := by
  obtain ⟨hok, hend⟩ := body_dot u hu hb
  have hp := nDigits_pos u
  obtain ⟨_, hn⟩ := body_ok u hu (by omega)
  have hlen : (bodyOf u ++ [46, 48]).length = nDigits u + 2 := by rw [List.length_append, body_len]; rfl
  have hm : (decDigits u ++ [46, 48]).map (fun c : UInt8 => c.toNat) = bodyOf u ++ [46, 48] := by rw [List.map_append]; rfl
  have hst := stands_of [] (decDigits u ++ [46, 48]) []
  have hsz := sz_of [] (decDigits u ++ [46, 48]) []
  rw [List.append_nil, hm] at hst hsz
  refine ⟨fun w => spec_pos u hu (by omega) [46, 48] (by decide) w, fun w => ?_⟩
  exact rf_pnen ⟨([] ++ (decDigits u ++ [46, 48])).toArray⟩ (bodyOf u ++ [46, 48]) hsz hst hok (by omega) (by omega) (dot_head u hu) (10 * u) (nDigits u + 1) true (nDigits u) hend (by omega) (-1) (by simp; omega) w
theorem reads1_neg (u : Nat) (hu : 0 < u) (hb : u ≤ 9007199254740992) : Reads1 ⟨([45] ++ (decDigits u ++ [46, 48])).toArray⟩ (10 * u) true := by
  obtain ⟨hok, hend⟩ := body_dot u hu hb
  have hp := nDigits_pos u
  obtain ⟨_, hn⟩ := body_ok u hu (by omega)
  have hlen : (bodyOf u ++ [46, 48]).length = nDigits u + 2 := by rw [List.length_append, body_len]; rfl
  have hm : (decDigits u ++ [46, 48]).map (fun c : UInt8 => c.toNat) = bodyOf u ++ [46, 48] := by rw [List.map_append]; rfl
  have hst := stands_of [45] (decDigits u ++ [46, 48]) []
  have hsz := sz_of [45] (decDigits u ++ [46, 48]) []
  rw [List.append_nil, hm] at hst hsz
  refine ⟨fun w => spec_neg u hu (by omega) [46, 48] (by decide) w, fun w => ?_⟩
  exact rf_mnen ⟨([45] ++ (decDigits u ++ [46, 48])).toArray⟩ (bodyOf u ++ [46, 48]) hsz hst rfl hok (by omega) (by omega) (dot_head u hu) (10 * u) (nDigits u + 1) true (nDigits u) hend (by omega) (-1) (by simp; omega) w
theorem atof_nil_dot (w : World) (hp : PfW1 w) : Atof ⟨([48] ++ [46, 48] : List UInt8).toArray⟩ 0 w := by
  have H1 : Hid (∀ w, Calls Tryz.prog 92 #[.string ⟨([48] ++ [46, 48] : List UInt8).toArray⟩] w fun e w' => e = .returned (.tuple #[.float .f64 0, .int .i64 0, .bool false]) ∧ w = w') := Lib.hid fun w => special_digit ⟨([48] ++ [46, 48] : List UInt8).toArray⟩ 48 (by decide) (by decide) rfl (by decide) (by decide) w
  have H2 : Hid (∀ w, Calls Tryz.prog 93 #[.string ⟨([48] ++ [46, 48] : List UInt8).toArray⟩] w fun e w' => e = .returned (.tuple #[.int .u64 0, .int .i64 0, .bool false, .bool false, .bool false, .int .i64 (⟨([48] ++ [46, 48] : List UInt8).toArray⟩ : ByteArray).size, .bool true]) ∧ w = w') := Lib.hid fun w => by
    have hz : ∀ j, j < [48, 46, 48].length → j = 0 ∨ j = 1 ∨ j = 2 := fun j hj => by
      have : j < 3 := hj
      omega
    exact rf_pcdn ⟨([48] ++ [46, 48] : List UInt8).toArray⟩ [48, 46, 48] rfl ⟨by decide, fun j hj => by rcases hz j hj with rfl | rfl | rfl <;> rfl⟩ (fun j hj => by
      rcases hz j hj with rfl | rfl | rfl
      · exact Or.inr ⟨by decide, by decide, by decide, by decide⟩
      · exact Or.inl ⟨rfl, rfl⟩
      · exact Or.inr ⟨by decide, by decide, by decide, by decide⟩) (by decide) (by decide) rfl rfl (by decide) 0 0 true (-1) (by rfl) rfl w
  have ho := hp.base.opt
  unfold Atof
  clear hp
  obtain ⟨S, hS⟩ : ∃ S : ByteArray, ⟨([48] ++ [46, 48] : List UInt8).toArray⟩ = S := ⟨_, rfl⟩
  rw [hS] at H1 H2 ⊢
  obtain ⟨Z, hZ⟩ : ∃ Z : Nat, S.size = Z := ⟨_, rfl⟩
  rw [hZ] at H2 ⊢
  go_enter Tryz.func71, Tryz.ntmps71
  go_wp2_with (first | (go_at_call 92; refine (H1.out _).mono ?_; rintro e w' ⟨rfl, rfl⟩) | (go_at_call 93; refine (H2.out _).mono ?_; rintro e w' ⟨rfl, rfl⟩) | (go_at_call 101; refine (b2u _ _).mono ?_; rintro e w' ⟨rfl, rfl⟩))
  go_returns
  exact ⟨rfl, Below.refl _ _⟩
/-! ### together -/
theorem zero_is : FloatKey.Is 0 0 0 := by
  have h := FloatKey.is_ofInt 0 (by decide)
  rwa [show floatOfInt .f64 0 = 0 from by rw [show (0 : Int) = ((0 : Nat) : Int) from rfl, ofInt_nat]; exact zero_word.symm] at h
theorem num_e0 (n : Int) (hn : n.natAbs ≤ 9007199254740992) (w : World) (hp : PfW1 w) : NumF (tx n [101, 48]) n w := by
  rcases Int.lt_trichotomy n 0 with h | h | h
  · refine ⟨_, ?_, num_whole _ n.natAbs true (fun h => by omega) (by omega) (by unfold tx; rw [itoa_neg h]; exact reads_neg_e0 n.natAbs (by omega) (by omega)) w hp.base⟩
    have := is_sgi true n.natAbs hn (by omega)
    rwa [show sgi true n.natAbs = n from by show -((n.natAbs : Nat) : Int) = n; omega] at this
  · subst h
    refine ⟨_, ?_, num_whole _ 0 false (fun _ => rfl) (by decide) (by unfold tx; rw [itoa_nil]; exact reads_nil_e0) w hp.base⟩
    rw [← zero_word]
    exact zero_is
  · refine ⟨_, ?_, num_whole _ n.natAbs false (fun h => by omega) (by omega) (by unfold tx; rw [itoa_pos h]; exact reads_pos_e0 n.natAbs (by omega) (by omega)) w hp.base⟩
    have := is_sgi false n.natAbs hn (by omega)
    rwa [show sgi false n.natAbs = n from by show ((n.natAbs : Nat) : Int) = n; omega] at this
theorem num_E00 (n : Int) (hn : n.natAbs ≤ 9007199254740992) (w : World) (hp : PfW1 w) : NumF (tx n [69, 43, 48, 48]) n w := by
  rcases Int.lt_trichotomy n 0 with h | h | h
  · refine ⟨_, ?_, num_whole _ n.natAbs true (fun h => by omega) (by omega) (by unfold tx; rw [itoa_neg h]; exact reads_neg_E00 n.natAbs (by omega) (by omega)) w hp.base⟩
    have := is_sgi true n.natAbs hn (by omega)
    rwa [show sgi true n.natAbs = n from by show -((n.natAbs : Nat) : Int) = n; omega] at this
  · subst h
    refine ⟨_, ?_, num_whole _ 0 false (fun _ => rfl) (by decide) (by unfold tx; rw [itoa_nil]; exact reads_nil_E00) w hp.base⟩
    rw [← zero_word]
    exact zero_is
  · refine ⟨_, ?_, num_whole _ n.natAbs false (fun h => by omega) (by omega) (by unfold tx; rw [itoa_pos h]; exact reads_pos_E00 n.natAbs (by omega) (by omega)) w hp.base⟩
    have := is_sgi false n.natAbs hn (by omega)
    rwa [show sgi false n.natAbs = n from by show ((n.natAbs : Nat) : Int) = n; omega] at this
theorem num_dot (n : Int) (hn : n.natAbs ≤ 9007199254740992) (w : World) (hp : PfW1 w) : NumF (tx n [46, 48]) n w := by
  rcases Int.lt_trichotomy n 0 with h | h | h
  · obtain ⟨V, hI, hA⟩ := atof_tenth (tx n [46, 48]) n.natAbs true (by omega) hn (by unfold tx; rw [itoa_neg h]; exact reads1_neg n.natAbs (by omega) hn) w hp
    rw [show sgi true n.natAbs = n from by show -((n.natAbs : Nat) : Int) = n; omega] at hI
    exact ⟨V, hI, num_of _ V w hA⟩
  · subst h
    refine ⟨0, zero_is, num_of _ 0 w ?_⟩
    unfold tx
    rw [itoa_nil]
    exact atof_nil_dot w hp
  · obtain ⟨V, hI, hA⟩ := atof_tenth (tx n [46, 48]) n.natAbs false (by omega) hn (by unfold tx; rw [itoa_pos h]; exact reads1_pos n.natAbs (by omega) hn) w hp
    rw [show sgi false n.natAbs = n from by show ((n.natAbs : Nat) : Int) = n; omega] at hI
    exact ⟨V, hI, num_of _ V w hA⟩
end Go.Proofs.YtngdcnljbfkneabGreatDoor
