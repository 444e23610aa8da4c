/- parseNumber at the text of an int, and at such a text with a tail that makes it a fraction's form. -/
import Derived.Test.YtngdcnljbfkneabGreatDoorPfE
import Derived.Test.YtngdcnljbfkneabGreatDoorItoaN
import Derived.Test.YtngdcnljbfkneabGreatDoorSrch
import Derived.Test.YtngdcnljbfkneabGreatDoorShelfP
import Derived.Lib.SmallJoins
import Derived.Lib.ParseIntB
namespace Go.Proofs.YtngdcnljbfkneabGreatDoor
open Go.RowKit Go.Dec Go.Lib Go.Deep

/-! ### strconv.ParseInt's law at such texts -/
theorem pu_step (u : Nat) : ∀ (_hu : u ≤ 9223372036854775808) (rest : List UInt8), parseUintM (2 ^ 64 - 1) 0 (decDigits u ++ rest) = parseUintM (2 ^ 64 - 1) u rest := by
  have hM : (2 : Nat) ^ 64 - 1 = 18446744073709551615 := by decide
  rw [hM]
  induction u using Nat.strongRecOn with
  | _ u ih =>
    intro hu rest
    by_cases h : u < 10
    · have hc : (UInt8.ofNat (48 + u)).toNat = 48 + u := by rw [UInt8.toNat_ofNat']; omega
      rw [decDigits, dif_pos h]
      show parseUintM 18446744073709551615 0 (UInt8.ofNat (48 + u) :: rest) = _
      rw [parseUintM, hc, if_pos (by omega), if_neg (by omega), if_neg (by omega)]
      congr 1
      omega
    · have hc : (UInt8.ofNat (48 + u % 10)).toNat = 48 + u % 10 := by rw [UInt8.toNat_ofNat']; omega
      rw [decDigits, dif_neg h, List.append_assoc, ih (u / 10) (by omega) (by omega)]
      show parseUintM 18446744073709551615 (u / 10) (UInt8.ofNat (48 + u % 10) :: rest) = _
      rw [parseUintM, hc, if_pos (by omega), if_neg (by omega), if_neg (by omega)]
      congr 1
      omega
theorem dec_head (u : Nat) : ∃ c r, decDigits u = c :: r ∧ 48 ≤ c.toNat ∧ c.toNat ≤ 57 := by
  induction u using Nat.strongRecOn with
  | _ u ih =>
    by_cases h : u < 10
    · have hc : (UInt8.ofNat (48 + u)).toNat = 48 + u := by rw [UInt8.toNat_ofNat']; omega
      exact ⟨_, [], by rw [decDigits, dif_pos h], by omega, by omega⟩
    · obtain ⟨c, r, h1, h2, h3⟩ := ih (u / 10) (by omega)
      exact ⟨c, r ++ [UInt8.ofNat (48 + u % 10)], by rw [decDigits, dif_neg h, h1]; rfl, h2, h3⟩
theorem pb_pos (u : Nat) (rest : List UInt8) : parseIntB 64 (decDigits u ++ rest) = (match parseUintB 64 (decDigits u ++ rest) with | .syntax => .syntax | .range => .range | .ok u => if 2 ^ 63 ≤ u then .range else .ok (u : Int)) := by
  obtain ⟨c, r, h1, h2, h3⟩ := dec_head u
  rw [h1]
  show parseIntB 64 (c :: (r ++ rest)) = _
  unfold parseIntB
  have n1 : ¬ c.toNat = 43 := by omega
  have n2 : ¬ c.toNat = 45 := by omega
  simp only [n1, n2, or_self, not_false_eq_true, true_and, false_and, if_false]
  rfl
theorem pb_neg (u : Nat) (rest : List UInt8) : parseIntB 64 (45 :: (decDigits u ++ rest)) = (match parseUintB 64 (decDigits u ++ rest) with | .syntax => .syntax | .range => .range | .ok u => if 2 ^ 63 < u then .range else .ok (-(u : Int))) := by
  unfold parseIntB
  simp
  rfl
theorem pub_at (u : Nat) (hu : u ≤ 9223372036854775808) (rest : List UInt8) : parseUintB 64 (decDigits u ++ rest) = parseUintM (2 ^ 64 - 1) u rest := by
  obtain ⟨c, r, h1, _, _⟩ := dec_head u
  unfold parseUintB
  rw [if_neg (by rw [h1]; simp), pu_step u hu rest]
theorem pi_int (n : Int) (hn : n.natAbs < 9223372036854775808) : parseIntB 64 (itoa n) = .ok n := by
  have h63 : (2 : Nat) ^ 63 = 9223372036854775808 := by decide
  have h := pub_at n.natAbs (by omega) []
  rw [List.append_nil] at h
  unfold parseUintM at h
  unfold itoa
  by_cases c : n < 0
  · rw [if_pos c]
    have := pb_neg n.natAbs []
    rw [List.append_nil, h] at this
    rw [this]
    simp only []
    rw [h63, if_neg (by omega)]
    congr 1
    omega
  · rw [if_neg c, show n.toNat = n.natAbs by omega]
    have := pb_pos n.natAbs []
    rw [List.append_nil, h] at this
    rw [this]
    simp only []
    rw [h63, if_neg (by omega)]
    congr 1
    omega
theorem pi_tail (n : Int) (hn : n.natAbs < 9223372036854775808) (c : UInt8) (r : List UInt8) (hc : ¬ (48 ≤ c.toNat ∧ c.toNat ≤ 57)) : parseIntB 64 (itoa n ++ c :: r) = .syntax := by
  have h := pub_at n.natAbs (by omega) (c :: r)
  unfold parseUintM at h
  rw [if_neg hc] at h
  unfold itoa
  by_cases c : n < 0
  · rw [if_pos c]
    have := pb_neg n.natAbs (‹UInt8› :: r)
    rw [h] at this
    exact this
  · rw [if_neg c, show n.toNat = n.natAbs by omega]
    have := pb_pos n.natAbs (‹UInt8› :: r)
    rw [h] at this
    exact this
/-! ### json.Number.Int64, String -/
@[go_sem] theorem err_held (u : TypeId) (x : Value) (w : World) : (binOp .eql 44 (.iface u x) .nilIface).run Tryz.prog w = .ok (.bool false) w := run_eql_held_nil w 44 u x (by kernel_rfl)
@[go_sem] theorem err_none (w : World) : (binOp .eql 44 .nilIface .nilIface).run Tryz.prog w = .ok (.bool true) w := run_eql_nil_nil w 44 (by kernel_rfl)
theorem itoa_len (n : Int) (hn : n.natAbs < 9223372036854775808) : (itoa n).length ≤ 20 := by
  have h19 : (10 : Nat) ^ 19 = 10000000000000000000 := by decide
  have h : nDigits n.natAbs ≤ 19 := nd_le _ 19 (by rw [h19]; omega) (by decide)
  unfold itoa
  by_cases c : n < 0
  · rw [if_pos c, List.length_cons, dec_len]; omega
  · rw [if_neg c, dec_len, show n.toNat = n.natAbs by omega]; omega
theorem tx_size (n : Int) (tail : List UInt8) : (tx n tail).size = (itoa n).length + tail.length := by
  show (itoa n ++ tail).length = _
  simp
theorem parse_ok (n : Int) (hn : n.natAbs < 9223372036854775808) (w : World) : Calls Tryz.prog 23 #[.string (tx n []), .int .i64 10, .int .i64 64] w fun e w' => e = .returned (.tuple #[.int .i64 n, .nilIface]) ∧ Below w.heap.size w w' := by
  have hl := itoa_len n hn
  refine Calls.mono (Any.strconv_ParseInt_10_at64_ok Tryz.pi174 (tx n []) (by rw [tx_size]; simp; omega) n (by show parseIntB 64 (itoa n ++ []) = _; rw [List.append_nil]; exact pi_int n hn) w) ?_
  rintro e w' ⟨rfl, h | ⟨t, h⟩⟩
  · exact ⟨rfl, by rw [h]; exact Below.refl _ _⟩
  · exact ⟨rfl, by rw [h]; exact Lib.bytesWorld_below _ _ _⟩
def ErrVar (w : World) : Prop := ∃ tp p, w.var? Tryz.prog "strconv.ErrSyntax" = some #[.iface tp p]
theorem parse_bad (n : Int) (hn : n.natAbs < 9223372036854775808) (c : UInt8) (r : List UInt8) (hc : ¬ (48 ≤ c.toNat ∧ c.toNat ≤ 57)) (hr : r.length ≤ 100) (w : World) (hv : ErrVar w) :
    Calls Tryz.prog 23 #[.string (tx n (c :: r)), .int .i64 10, .int .i64 64] w fun e w' => (∃ u x, e = .returned (.tuple #[.int .i64 0, .iface u x])) ∧ Below w.heap.size w w' := by
  have hl := itoa_len n hn
  obtain ⟨tp, p, hv⟩ := hv
  refine Calls.mono (Any.strconv_ParseInt_10_at64_syntax_var Tryz.pi174 (tx n (c :: r)) (by rw [tx_size]; simp; omega) (pi_tail n hn c r hc) tp p w hv) ?_
  rintro e w' ⟨N, rfl, _, _, hb⟩
  exact ⟨⟨_, _, rfl⟩, hb⟩
theorem int64_ok (n : Int) (hn : n.natAbs < 9223372036854775808) (w : World) : Calls Tryz.prog 15 #[.string (tx n [])] w fun e w' => e = .returned (.tuple #[.int .i64 n, .nilIface]) ∧ Below w.heap.size w w' := by
  have H := Lib.hid (parse_ok n hn w)
  obtain ⟨s, hs⟩ : ∃ s, tx n [] = s := ⟨_, rfl⟩
  rw [hs] at H ⊢
  clear hs hn
  go_enter Tryz.func15, Tryz.ntmps15
  go_wp2_with (go_at_call 23; refine H.out.mono ?_; rintro e w1 ⟨rfl, hb⟩; have HB := Lib.hid hb; clear hb)
  go_returns
  exact ⟨rfl, HB.out⟩
theorem int64_bad (n : Int) (hn : n.natAbs < 9223372036854775808) (c : UInt8) (r : List UInt8) (hc : ¬ (48 ≤ c.toNat ∧ c.toNat ≤ 57)) (hr : r.length ≤ 100) (w : World) (hv : ErrVar w) :
    Calls Tryz.prog 15 #[.string (tx n (c :: r))] w fun e w' => (∃ u x, e = .returned (.tuple #[.int .i64 0, .iface u x])) ∧ Below w.heap.size w w' := by
  have H := Lib.hid (parse_bad n hn c r hc hr w hv)
  obtain ⟨s, hs⟩ : ∃ s, tx n (c :: r) = s := ⟨_, rfl⟩
  rw [hs] at H ⊢
  clear hs hn hc hr hv
  go_enter Tryz.func15, Tryz.ntmps15
  go_wp2_with (go_at_call 23; refine H.out.mono ?_; rintro e w1 ⟨⟨u, x, rfl⟩, hb⟩; have HB := Lib.hid hb; clear hb)
  go_returns
  exact ⟨⟨u, x, rfl⟩, HB.out⟩
theorem num_str (s : ByteArray) (w : World) : Calls Tryz.prog 17 #[.string s] w fun e w' => e = .returned (.string s) ∧ w = w' := by
  go_enter Tryz.func17, Tryz.ntmps17
  go_wp2
  go_ret
  exact ⟨rfl, rfl⟩
/-! ### parseNumber -/
set_option maxRecDepth 100000 in
set_option maxHeartbeats 2000000 in
theorem pn_int (n : Int) (hn : n.natAbs < 9223372036854775808) (w : World) : Calls Tryz.prog 11 #[.string (tx n [])] w fun e w' => e = .returned (.iface 3 (.int .i64 n)) ∧ Below w.heap.size w w' := by
  have H := Lib.hid (int64_ok n hn w)
  have h1 : -9223372036854775808 ≤ n := by omega
  have h2 : n ≤ 9223372036854775807 := by omega
  obtain ⟨s, hs⟩ : ∃ s, tx n [] = s := ⟨_, rfl⟩
  rw [hs] at H ⊢
  clear hs hn
  go_enter Tryz.func11, Tryz.ntmps11
  go_wp2_with (go_at_call 15; refine H.out.mono ?_; rintro e w1 ⟨rfl, hb⟩; have HB := Lib.hid hb; clear hb)
  go_returns
  exact ⟨rfl, HB.out⟩
/-- The place of the first byte of the tail. -/
theorem tail_at (n : Int) (hn : n.natAbs < 9223372036854775808) (c : UInt8) (r : List UInt8) (hr : r.length ≤ 100) (hc : Mark c.toNat) (w : World) :
    Calls Tryz.prog 16 #[.string (tx n (c :: r)), .string ⟨#[46, 101, 69]⟩] w fun e w' => e = .returned (.bool true) ∧ Below w.heap.size w w' := by
  have hl := itoa_len n hn
  have hsz := tx_size n (c :: r)
  rw [List.length_cons] at hsz
  have hlow : ∀ x ∈ itoa n, x.toNat < 128 ∧ ¬ Mark x.toNat := by
    have hd : ∀ u : Nat, ∀ x ∈ decDigits u, x.toNat < 128 ∧ ¬ Mark x.toNat := by
      intro u
      induction u using Nat.strongRecOn with
      | _ u ih =>
        intro x hx
        by_cases h : u < 10
        · rw [decDigits, dif_pos h, List.mem_singleton] at hx
          subst hx
          have hc : (UInt8.ofNat (48 + u)).toNat = 48 + u := by rw [UInt8.toNat_ofNat']; omega
          rw [hc]
          unfold Mark
          omega
        · rw [decDigits, dif_neg h, List.mem_append, List.mem_singleton] at hx
          rcases hx with hx | rfl
          · exact ih (u / 10) (by omega) x hx
          · have hc : (UInt8.ofNat (48 + u % 10)).toNat = 48 + u % 10 := by rw [UInt8.toNat_ofNat']; omega
            rw [hc]
            unfold Mark
            omega
    intro x hx
    unfold itoa at hx
    by_cases h : n < 0
    · rw [if_pos h, List.mem_cons] at hx
      rcases hx with rfl | hx
      · exact ⟨by decide, by unfold Mark; decide⟩
      · exact hd _ x hx
    · rw [if_neg h] at hx
      exact hd _ x hx
  refine containsAny_at (tx n (c :: r)) (itoa n).length (by omega) (by omega) (fun j hj => ?_) ?_ w
  · have e : (tx n (c :: r)).data.toList.getD j 0 = (itoa n)[j] := by
      show (itoa n ++ c :: r).getD j 0 = _
      rw [List.getD_eq_getElem?_getD, List.getElem?_append_left hj, List.getElem?_eq_getElem hj]
      rfl
    rw [e]
    exact hlow _ (List.getElem_mem hj)
  · have e : (tx n (c :: r)).data.toList.getD (itoa n).length 0 = c := by
      show (itoa n ++ c :: r).getD _ 0 = _
      rw [List.getD_eq_getElem?_getD, List.getElem?_append_right (Nat.le_refl _), Nat.sub_self]
      rfl
    rw [e]
    exact hc
theorem mark_bad {c : UInt8} (h : Mark c.toNat) : ¬ (48 ≤ c.toNat ∧ c.toNat ≤ 57) := by unfold Mark at h; omega
theorem NumF.ex {s : ByteArray} {n : Int} {w : World} (h : NumF s n w) : ∃ V, FloatKey.Is V n 0 ∧ Calls Tryz.prog 18 #[.string s] w fun e w' => e = .returned (.tuple #[.float .f64 V, .nilIface]) ∧ Below w.heap.size w w' := h
/-- What the law wants of the world: the tables, and the error's variable. -/
structure LawW (w : World) : Prop where
  pf : PfW1 w
  err : ErrVar w
  sz : 3 < w.heap.size
theorem LawW.later {w w' : World} (h : LawW w) (hb : Below w.heap.size w w') : LawW w' := by
  refine ⟨h.pf.later hb, ?_, Nat.lt_of_lt_of_le h.sz hb.size⟩
  obtain ⟨tp, p, hv⟩ := h.err
  refine ⟨tp, p, ?_⟩
  have hg : Tryz.prog.globalNamed "strconv.ErrSyntax" = some 3 := by kernel_rfl
  unfold World.var? at hv ⊢
  rw [hg] at hv ⊢
  simp only [Option.bind_some] at hv ⊢
  rw [hb.block 3 h.sz]
  exact hv
def FracOk (s : ByteArray) (n : Int) (fn : Nat) (w : World) : Prop :=
  Calls Tryz.prog fn #[.string s] w fun e w' => (∃ V, FloatKey.Is V n 0 ∧ e = .returned (.iface 23 (.float .f64 V))) ∧ Below w.heap.size w w'
set_option maxRecDepth 100000 in
set_option maxHeartbeats 2000000 in
theorem pn_frac (n : Int) (hn : n.natAbs < 9223372036854775808) (c : UInt8) (r : List UInt8) (hr : r.length ≤ 100) (hc : Mark c.toNat) (hF : ∀ w, PfW1 w → NumF (tx n (c :: r)) n w) (w : World) (hW : LawW w) :
    FracOk (tx n (c :: r)) n 11 w := by
  unfold FracOk
  have H1 := Lib.hid (int64_bad n hn c r (mark_bad hc) hr w hW.err)
  have H2 := Lib.hid fun w => tail_at n hn c r hr hc w
  have HW := Lib.hid hW
  have HF := Lib.hid hF
  obtain ⟨s, hs⟩ : ∃ s, tx n (c :: r) = s := ⟨_, rfl⟩
  rw [hs] at H1 H2 HF ⊢
  clear hs hn hc hr hW hF
  go_enter Tryz.func11, Tryz.ntmps11
  go_wp2_with (first
    | (go_at_call 15; refine H1.out.mono ?_; rintro e w1 ⟨⟨u, x, rfl⟩, hb⟩; have HB := Lib.hid hb; clear hb)
    | (go_at_call 17; refine (num_str s _).mono ?_; rintro e w2 ⟨rfl, rfl⟩)
    | (go_at_call 16; refine (H2.out _).mono ?_; rintro e w3 ⟨rfl, hb⟩; have HB3 := Lib.hid (HB.out.trans (hb.mono HB.out.size)); clear hb)
    | (go_at_call 18; obtain ⟨V, hI, hC⟩ := (HF.out _ (HW.out.later HB3.out).pf).ex; refine hC.mono ?_; rintro e w4 ⟨rfl, hb⟩; have HB4 := Lib.hid (HB3.out.trans (hb.mono HB3.out.size)); clear hb hC))
  go_returns
  exact ⟨⟨V, hI, rfl⟩, HB4.out⟩
end Go.Proofs.YtngdcnljbfkneabGreatDoor
