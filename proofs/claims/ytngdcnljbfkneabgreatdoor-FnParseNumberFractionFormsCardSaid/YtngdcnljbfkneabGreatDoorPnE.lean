/- The texts that end in 'e999': readFloat, Float64, and what nat.scan meets. -/
import Derived.Test.YtngdcnljbfkneabGreatDoorInf
import Derived.Test.YtngdcnljbfkneabGreatDoorPfF
import Derived.Test.YtngdcnljbfkneabGreatDoorRf8
import Derived.Test.YtngdcnljbfkneabGreatDoorRf9
namespace Go.Proofs.YtngdcnljbfkneabGreatDoor
open Go.RowKit Go.Dec Go.Lib Go.Deep

theorem readsE_pos (u : Nat) (hu : 0 < u) (hb : u ≤ 9223372036854775808) : ReadsE ⟨([] ++ (decDigits u ++ [101, 57, 57, 57])).toArray⟩ u 999 false := by
  obtain ⟨hok, hn⟩ := body_ok u hu hb
  have hp := nDigits_pos u
  have hl : (bodyOf u).length = nDigits u := body_len u
  refine ⟨fun w => spec_pos u hu hb [101, 57, 57, 57] (by decide) w, fun w => ?_⟩
  exact rf_pnee9 ⟨([] ++ (decDigits u ++ [101, 57, 57, 57])).toArray⟩ (bodyOf u) (sz_of [] (decDigits u) [101, 57, 57, 57]) (stands_of [] (decDigits u) [101, 57, 57, 57]) (by have := tl_get [] (decDigits u) [101, 57, 57, 57] 0; rw [show (([] : List UInt8).length + (decDigits u).length + 0) = 0 + (bodyOf u).length + 0 from by rw [hl, dec_len]; rfl] at this; exact congrArg UInt8.toNat this) (by have := tl_get [] (decDigits u) [101, 57, 57, 57] 1; rw [show (([] : List UInt8).length + (decDigits u).length + 1) = 0 + (bodyOf u).length + 1 from by rw [hl, dec_len]; rfl] at this; exact congrArg UInt8.toNat this) (by have := tl_get [] (decDigits u) [101, 57, 57, 57] 2; rw [show (([] : List UInt8).length + (decDigits u).length + 2) = 0 + (bodyOf u).length + 2 from by rw [hl, dec_len]; rfl] at this; exact congrArg UInt8.toNat this) (by have := tl_get [] (decDigits u) [101, 57, 57, 57] 3; rw [show (([] : List UInt8).length + (decDigits u).length + 3) = 0 + (bodyOf u).length + 3 from by rw [hl, dec_len]; rfl] at this; exact congrArg UInt8.toNat this)
    hok (by omega) (by omega) (body_head u hu) u (nDigits u) false 0 (body_end u hu) (by omega) 999 (by simp; omega) w
theorem expT_pos (u : Nat) (hu : 0 < u) (hb : u ≤ 9007199254740992) : ExpT ⟨([] ++ (decDigits u ++ [101, 57, 57, 57])).toArray⟩ u (nDigits u) false := by
  have hp := nDigits_pos u
  have hl : (bodyOf u).length = nDigits u := body_len u
  have h16 : (10 : Nat) ^ 16 = 10000000000000000 := by decide
  have hn16 : nDigits u ≤ 16 := nd_le u 16 (by rw [h16]; omega) (by decide)
  have hsz := sz_of [] (decDigits u) [101, 57, 57, 57]
  rw [List.length_map, dec_len] at hsz
  have hsz2 : (⟨([] ++ (decDigits u ++ [101, 57, 57, 57])).toArray⟩ : ByteArray).size = 0 + nDigits u + 4 := hsz
  refine ⟨hu, rfl, hn16, by omega, stands_of [] (decDigits u) [101, 57, 57, 57], by rw [hsz2]; show 0 + nDigits u < _; omega, ?_, ?_, ?_⟩
  · have := tl_get [] (decDigits u) [101, 57, 57, 57] 0
    rw [dec_len] at this
    exact congrArg UInt8.toNat this
  · have hg : ((((⟨([] ++ (decDigits u ++ [101, 57, 57, 57])).toArray⟩ : ByteArray).data.toList.getD 0 0).toNat : Int)) = ((bodyOf u).getD 0 0 : Nat) := by
      have := ds_get [] (decDigits u) [101, 57, 57, 57] 0 (by rw [dec_len]; exact hp)
      show ((([] ++ (decDigits u ++ [101, 57, 57, 57])).getD 0 0).toNat : Int) = _
      rw [show (0 : Nat) = ([] : List UInt8).length + 0 from rfl, this, list_nat]
      rfl
    rw [hg, body_get u 0 hp]
    simp
    omega
  · have hg : ((((⟨([] ++ (decDigits u ++ [101, 57, 57, 57])).toArray⟩ : ByteArray).data.toList.getD 0 0).toNat : Int)) = ((bodyOf u).getD 0 0 : Nat) := by
      have := ds_get [] (decDigits u) [101, 57, 57, 57] 0 (by rw [dec_len]; exact hp)
      show ((([] ++ (decDigits u ++ [101, 57, 57, 57])).getD 0 0).toNat : Int) = _
      rw [show (0 : Nat) = ([] : List UInt8).length + 0 from rfl, this, list_nat]
      rfl
    rw [hg, body_get u 0 hp]
    simp
    omega
theorem readsE_neg (u : Nat) (hu : 0 < u) (hb : u ≤ 9223372036854775808) : ReadsE ⟨([45] ++ (decDigits u ++ [101, 57, 57, 57])).toArray⟩ u 999 true := by
  obtain ⟨hok, hn⟩ := body_ok u hu hb
  have hp := nDigits_pos u
  have hl : (bodyOf u).length = nDigits u := body_len u
  refine ⟨fun w => spec_neg u hu hb [101, 57, 57, 57] (by decide) w, fun w => ?_⟩
  exact rf_mnee9 ⟨([45] ++ (decDigits u ++ [101, 57, 57, 57])).toArray⟩ (bodyOf u) (sz_of [45] (decDigits u) [101, 57, 57, 57]) (stands_of [45] (decDigits u) [101, 57, 57, 57]) rfl (by have := tl_get [45] (decDigits u) [101, 57, 57, 57] 0; rw [show (([45] : List UInt8).length + (decDigits u).length + 0) = 1 + (bodyOf u).length + 0 from by rw [hl, dec_len]; rfl] at this; exact congrArg UInt8.toNat this) (by have := tl_get [45] (decDigits u) [101, 57, 57, 57] 1; rw [show (([45] : List UInt8).length + (decDigits u).length + 1) = 1 + (bodyOf u).length + 1 from by rw [hl, dec_len]; rfl] at this; exact congrArg UInt8.toNat this) (by have := tl_get [45] (decDigits u) [101, 57, 57, 57] 2; rw [show (([45] : List UInt8).length + (decDigits u).length + 2) = 1 + (bodyOf u).length + 2 from by rw [hl, dec_len]; rfl] at this; exact congrArg UInt8.toNat this) (by have := tl_get [45] (decDigits u) [101, 57, 57, 57] 3; rw [show (([45] : List UInt8).length + (decDigits u).length + 3) = 1 + (bodyOf u).length + 3 from by rw [hl, dec_len]; rfl] at this; exact congrArg UInt8.toNat this)
    hok (by omega) (by omega) (body_head u hu) u (nDigits u) false 0 (body_end u hu) (by omega) 999 (by simp; omega) w
theorem expT_neg (u : Nat) (hu : 0 < u) (hb : u ≤ 9007199254740992) : ExpT ⟨([45] ++ (decDigits u ++ [101, 57, 57, 57])).toArray⟩ u (nDigits u) true := by
  have hp := nDigits_pos u
  have hl : (bodyOf u).length = nDigits u := body_len u
  have h16 : (10 : Nat) ^ 16 = 10000000000000000 := by decide
  have hn16 : nDigits u ≤ 16 := nd_le u 16 (by rw [h16]; omega) (by decide)
  have hsz := sz_of [45] (decDigits u) [101, 57, 57, 57]
  rw [List.length_map, dec_len] at hsz
  have hsz2 : (⟨([45] ++ (decDigits u ++ [101, 57, 57, 57])).toArray⟩ : ByteArray).size = 1 + nDigits u + 4 := hsz
  refine ⟨hu, rfl, hn16, by omega, stands_of [45] (decDigits u) [101, 57, 57, 57], by rw [hsz2]; show 1 + nDigits u < _; omega, ?_, ?_, ?_⟩
  · have := tl_get [45] (decDigits u) [101, 57, 57, 57] 0
    rw [dec_len] at this
    exact congrArg UInt8.toNat this
  · rfl
  · rfl
theorem over_of (s : ByteArray) (u : Nat) (neg : Bool) (hu : 0 < u) (hs : s.size ≤ 100) (hr : ReadsE s u 999 neg) (w : World) (hp : PfW1 w) (hE : ErrCells w) : Over s w := by
  obtain ⟨tp, p, h⟩ := hE.rng
  exact num_over s hs _ (.iface tp p) w (atof_over s u 999 neg hu (by decide) hr w hp.base.opt) hE.sz.1 h (Or.inr ⟨tp, p, rfl⟩)
/-- parseNumber at n (not zero) with 'e999': the infinity of n's sign. -/
theorem pn_inf (n : Int) (h0 : n ≠ 0) (hn : n.natAbs ≤ 9007199254740992) (w : World) (hW : LawW w) (hE : ErrCells w) :
    Calls Tryz.prog 11 #[.string (tx n [101, 57, 57, 57])] w fun e w' => e = .returned (.iface 23 (.float .f64 (infW (decide (n < 0))))) ∧ Below w.heap.size w w' := by
  have hsz : (tx n [101, 57, 57, 57]).size ≤ 100 := by
    rw [tx_size]
    have := itoa_len n (by omega)
    simp
    omega
  rcases Int.lt_trichotomy n 0 with h | h | h
  · have T := expT_neg n.natAbs (by omega) hn
    have R := readsE_neg n.natAbs (by omega) (by omega)
    have e : tx n [101, 57, 57, 57] = ⟨([45] ++ (decDigits n.natAbs ++ [101, 57, 57, 57])).toArray⟩ := by unfold tx; rw [itoa_neg h]; rfl
    rw [← e] at T R
    rw [decide_eq_true h]
    exact pn_over n (by omega) _ _ true T (fun w h1 h2 => over_of _ n.natAbs true (by omega) hsz R w h1 h2) w hW hE
  · exact absurd h h0
  · have T := expT_pos n.natAbs (by omega) hn
    have R := readsE_pos n.natAbs (by omega) (by omega)
    have e : tx n [101, 57, 57, 57] = ⟨([] ++ (decDigits n.natAbs ++ [101, 57, 57, 57])).toArray⟩ := by unfold tx; rw [itoa_pos h]; rfl
    rw [← e] at T R
    rw [decide_eq_false (by omega)]
    exact pn_over n (by omega) _ _ false T (fun w h1 h2 => over_of _ n.natAbs false (by omega) hsz R w h1 h2) w hW hE
theorem reads_nil_e9 : Reads ⟨([48] ++ [101, 57, 57, 57] : List UInt8).toArray⟩ 0 false := by
  refine ⟨fun w => special_digit ⟨([48] ++ [101, 57, 57, 57] : List UInt8).toArray⟩ 48 (by decide) (by decide) rfl (by decide) (by decide) w, fun w => ?_⟩
  have hz : ∀ j, j < [48].length → j = 0 := fun j hj => by rw [List.length_singleton] at hj; omega
  exact rf_pcee9 ⟨([48] ++ [101, 57, 57, 57] : List UInt8).toArray⟩ [48] rfl ⟨by decide, fun j hj => by rw [hz j hj]; rfl⟩ rfl rfl rfl rfl (fun j hj => by
      rw [hz j hj]
      exact Or.inr ⟨by decide, by decide, by decide, by decide⟩) (by decide) (by decide) rfl rfl (by decide) 0 0 false (-1) (by rfl) rfl w
theorem num_nil_e9 (w : World) (hp : PfW1 w) : NumF (tx 0 [101, 57, 57, 57]) 0 w := by
  refine ⟨_, ?_, num_whole _ 0 false (fun _ => rfl) (by decide) (by unfold tx; rw [itoa_nil]; exact reads_nil_e9) w hp.base⟩
  rw [← zero_word]
  exact zero_is
end Go.Proofs.YtngdcnljbfkneabGreatDoor
