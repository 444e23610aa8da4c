/- Contracts: special, atof64exact of strconv at the texts of whole numbers. -/
import Derived.Test.YtngdcnljbfkneabGreatDoorReadF
import Derived.Test.YtngdcnljbfkneabGreatDoorParseC
import Derived.WalkMore
import Derived.Deep.QuietTactic
import Derived.BigQuiet
namespace Go.Proofs.YtngdcnljbfkneabGreatDoor
open Go.RowKit Go.Dec

/-- What of the laid tables ParseFloat reads. -/
structure PfW (w : World) : Prop where
  t0 : w.cell? ⟨19, 696, none⟩ = some (.int .u64 9223372036854775808)
  t1 : w.cell? ⟨19, 697, none⟩ = some (.int .u64 0)
  mant : w.cell? ⟨13, 0, none⟩ = some (.int .u64 52)
  opt : w.cell? ⟨12, 0, none⟩ = some (.bool true)
  sz : 19 < w.heap.size ∧ 13 < w.heap.size ∧ 12 < w.heap.size
theorem PfW.later {w w' : World} (h : PfW w) (hb : Below w.heap.size w w') : PfW w' :=
  ⟨(hb.cell (p := ⟨19, 696, none⟩) h.sz.1).trans h.t0, (hb.cell (p := ⟨19, 697, none⟩) h.sz.1).trans h.t1, (hb.cell (p := ⟨13, 0, none⟩) h.sz.2.1).trans h.mant,
    (hb.cell (p := ⟨12, 0, none⟩) h.sz.2.2).trans h.opt, ⟨Nat.lt_of_lt_of_le h.sz.1 hb.size, Nat.lt_of_lt_of_le h.sz.2.1 hb.size, Nat.lt_of_lt_of_le h.sz.2.2 hb.size⟩⟩

theorem ext_get (s : ByteArray) (Z : Nat) (h : s.size = Z) (j : Nat) : (s.extract 1 Z).data.toList.getD j 0 = s.data.toList.getD (1 + j) 0 := by
  have e : (s.extract 1 Z).data.toList = s.data.toList.drop 1 := by
    have h2 : s.data.toList.length = Z := h
    rw [ByteArray.data_extract, Array.toList_extract, List.extract_eq_take_drop, List.take_of_length_le (by rw [List.length_drop]; omega)]
  rw [e, List.getD_eq_getElem?_getD, List.getElem?_drop, List.getD_eq_getElem?_getD]
open Ieee FloatKey in
theorem word_neg (r : Nat) (h : r < 9223372036854775808) : Go.Op.negFloat .f64 (double.word false r) = double.word true r := by
  have e : Go.Op.negFloat .f64 (double.word false r) = r ^^^ 2 ^ 63 := rfl
  have e2 : double.word true r = 2 ^ 63 + r := rfl
  have k : (2 : Nat) ^ 63 = 9223372036854775808 := by decide
  have h1 : (r ^^^ 2 ^ 63) % 2 ^ 63 = r := by rw [Nat.xor_mod_two_pow, Nat.mod_self, Nat.xor_zero, Nat.mod_eq_of_lt (by omega)]
  have h2 : (r ^^^ 2 ^ 63) / 2 ^ 63 = 1 := by rw [Nat.xor_div_two_pow, Nat.div_self (by omega), Nat.div_eq_of_lt (by omega)]; rfl
  rw [e, e2]
  omega
open Ieee FloatKey in
theorem near_neg (d : Nat) (h : d ≤ 9007199254740992) : Go.Op.negFloat .f64 (double.nearest false d 0) = double.nearest true d 0 := by
  obtain ⟨r, h1, h2, h3⟩ := nearest_whole false d h
  obtain ⟨r2, h4, h5, h6⟩ := nearest_whole true d h
  obtain rfl : r = r2 := units_inj (h2.trans h5.symm)
  rw [h1, h4]
  exact word_neg r (by omega)
theorem ofInt_nat (d : Nat) : floatOfInt .f64 (d : Int) = Ieee.double.nearest false d 0 := by
  unfold floatOfInt FloatKind.nearest
  rw [show decide ((d : Int) < 0) = false by simp, Int.natAbs_natCast]
  rfl
theorem ofInt_neg (d : Nat) (h : 0 < d) : floatOfInt .f64 (-(d : Int)) = Ieee.double.nearest true d 0 := by
  unfold floatOfInt FloatKind.nearest
  rw [show decide (-(d : Int) < 0) = true by simp; omega, Int.natAbs_neg, Int.natAbs_natCast]
  rfl
set_option maxRecDepth 100000 in
set_option maxHeartbeats 2000000 in
/-- A text that begins with a digit shares nothing with "infinity". -/
theorem prefix_digit (s : ByteArray) (c : Int) (hs : 0 < s.size) (hs2 : s.size ≤ 1000) (hc : ((s.data.toList.getD 0 0).toNat : Int) = c) (h1 : 48 ≤ c) (h2 : c ≤ 57) (p : ByteArray) (hp : p.size = 8) (hp0 : ((p.data.toList.getD 0 0).toNat : Int) = 105) (w : World) :
    Calls Tryz.prog 135 #[.string s, .string p] w fun e w' => e = .returned (.int .i64 0) ∧ w = w' := by
  have i0 := fun (w : World) => idx_at s 0 0 c rfl hs hc w
  have p0 := fun (w : World) => idx_at p 0 0 105 rfl (by omega) hp0 w
  obtain ⟨Z, hZ⟩ : ∃ Z : Nat, s.size = Z := ⟨_, rfl⟩
  rw [hZ] at hs hs2
  clear hc hp0
  go_enter Tryz.func135, Tryz.ntmps135
  go_wp2
  go_loop [6] (fun i => i = .int .i64 0) (fun _ => 0)
  case atStart => rfl
  case round =>
    have hmin : (0 : Int) < min 8 (Z : Int) := by omega
    have hne : (c == 105) = false := by simp; omega
    go_wp2
    go_ret
    exact ⟨rfl, rfl⟩
set_option maxRecDepth 100000 in
set_option maxHeartbeats 2000000 in
theorem special_digit (s : ByteArray) (c : Int) (hs : 0 < s.size) (hs2 : s.size ≤ 1000) (hc : ((s.data.toList.getD 0 0).toNat : Int) = c) (h1 : 48 ≤ c) (h2 : c ≤ 57) (w : World) :
    Calls Tryz.prog 92 #[.string s] w fun e w' => e = .returned (.tuple #[.float .f64 0, .int .i64 0, .bool false]) ∧ w = w' := by
  have i0 := fun (w : World) => idx_at s 0 0 c rfl hs hc w
  have n1 : (c == 43) = false := by simp; omega
  have n2 : (c == 45) = false := by simp; omega
  have n3 : (c == 105) = false := by simp; omega
  have n4 : (c == 73) = false := by simp; omega
  have n5 : (c == 110) = false := by simp; omega
  have n6 : (c == 78) = false := by simp; omega
  obtain ⟨Z, hZ⟩ : ∃ Z : Nat, s.size = Z := ⟨_, rfl⟩
  rw [hZ] at hs hs2
  have z0 : ((Z : Int) == 0) = false := by simp; omega
  clear hc
  go_enter Tryz.func92, Tryz.ntmps92
  go_wp2
  go_returns
  exact ⟨rfl, rfl⟩
set_option maxRecDepth 100000 in
set_option maxHeartbeats 2000000 in
theorem special_minus (s : ByteArray) (c : Int) (hs : 1 < s.size) (hs2 : s.size ≤ 1000) (hm : ((s.data.toList.getD 0 0).toNat : Int) = 45) (hc : ((s.data.toList.getD 1 0).toNat : Int) = c) (h1 : 48 ≤ c) (h2 : c ≤ 57) (w : World) :
    Calls Tryz.prog 92 #[.string s] w fun e w' => e = .returned (.tuple #[.float .f64 0, .int .i64 0, .bool false]) ∧ w = w' := by
  have i0 := fun (w : World) => idx_at s 0 0 45 rfl (by omega) hm w
  obtain ⟨Z, hZ⟩ : ∃ Z : Nat, s.size = Z := ⟨_, rfl⟩
  rw [hZ] at hs hs2
  have z0 : ((Z : Int) == 0) = false := by simp; omega
  go_enter Tryz.func92, Tryz.ntmps92
  have he : ∀ j, (s.extract 1 Z).data.toList.getD j 0 = s.data.toList.getD (1 + j) 0 := fun j => ext_get s Z hZ j
  have hes : (s.extract 1 Z).size = Z - 1 := by rw [← hZ]; simp
  obtain ⟨x, hx⟩ : ∃ x, s.extract 1 Z = x := ⟨_, rfl⟩
  rw [hx] at he hes
  have hpd := fun w => prefix_digit x c (by omega) (by omega) (by rw [he 0]; exact hc) h1 h2 ⟨#[105, 110, 102, 105, 110, 105, 116, 121]⟩ rfl rfl w
  clear he hes hm hc
  go_wp2_with (go_at_call 135; refine (hpd _).mono ?_; rintro e w' ⟨rfl, rfl⟩)
  go_returns
  exact ⟨rfl, rfl⟩
set_option maxRecDepth 100000 in
set_option maxHeartbeats 2000000 in
theorem exact_small (d : Nat) (neg : Bool) (hd : d < 4503599627370496) (w : World) (hp : PfW w) :
    Calls Tryz.prog 103 #[.int .u64 d, .int .i64 0, .bool neg] w fun e w' => e = .returned (.tuple #[.float .f64 (Ieee.double.nearest neg d 0), .bool true]) ∧ w = w' := by
  have m0 := hp.mant
  cases neg with
  | false =>
    rw [← ofInt_nat]
    go_enter Tryz.func103, Tryz.ntmps103
    go_wp2
    go_returns
    exact ⟨rfl, rfl⟩
  | true =>
    rw [← near_neg d (by omega), ← ofInt_nat]
    go_enter Tryz.func103, Tryz.ntmps103
    go_wp2
    go_returns
    exact ⟨rfl, rfl⟩
set_option maxRecDepth 100000 in
set_option maxHeartbeats 2000000 in
theorem exact_big (d : Nat) (neg : Bool) (hd : 4503599627370496 ≤ d) (hd2 : d ≤ 9223372036854775808) (w : World) (hp : PfW w) :
    Calls Tryz.prog 103 #[.int .u64 d, .int .i64 0, .bool neg] w fun e w' => e = .returned (.tuple #[.float .f64 0, .bool false]) ∧ w = w' := by
  have m0 := hp.mant
  go_enter Tryz.func103, Tryz.ntmps103
  go_wp2
  go_returns
  exact ⟨rfl, rfl⟩
end Go.Proofs.YtngdcnljbfkneabGreatDoor
