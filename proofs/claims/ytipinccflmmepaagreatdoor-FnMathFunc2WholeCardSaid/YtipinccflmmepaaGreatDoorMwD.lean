/- The outcomes of the mathFunc callbacks, what comes out of them, and how the law looks at them. -/
import Derived.Test.YtipinccflmmepaaGreatDoorMwB
import Derived.Test.YtipinccflmmepaaGreatDoorFloatKey
namespace Go.Proofs.YtipinccflmmepaaGreatDoor
open Go.RowKit Go.Deep

/-- An arithmetic operation's answer: the language's word, or some NaN. -/
def Arith (op : BinOp) (x y d : Nat) : Prop := floatBits op .f64 x y = some d ∨ (floatBits op .f64 x y = none ∧ FloatKey.isNaN d = true)
def Same2 (a b : Nat) : Prop := a = b ∨ (FloatKey.isNaN a = true ∧ FloatKey.isNaN b = true)
theorem Arith.same {op : BinOp} {x y d e : Nat} (h : Arith op x y d) (k : Arith op x y e) : Same2 d e := by
  rcases h with h | ⟨h, h2⟩ <;> rcases k with k | ⟨k, k2⟩
  · exact .inl (Option.some.inj (h.symm.trans k))
  · rw [h] at k; cases k
  · rw [h] at k; cases k
  · exact .inr ⟨h2, k2⟩
theorem nan_isNaN (x y : Nat) (w : World) : FloatKey.isNaN (Str.nanAt x y w) = true := by
  obtain ⟨s, r, h, h1, h2, h3⟩ := Str.nanAt_ge x y w
  rw [h]
  unfold FloatKey.isNaN FloatKey.rung
  have : (s * 9223372036854775808 + r) % 9223372036854775808 = r := by omega
  rw [this]
  exact decide_eq_true h2
theorem quo_nan (x y : Nat) (h : FloatKey.isNaN x = true) : floatBits .quo .f64 x y = none := by
  unfold FloatKey.isNaN at h
  show (Ieee.double.div x y) = none
  unfold Ieee.Format.div
  rw [FloatKey.read_nan x (of_decide_eq_true h)]
  cases (Ieee.double.read y) <;> rfl
theorem Arith.div {x x2 z q q2 : Nat} (h : Same2 x x2) (h1 : Arith .quo x z q) (h2 : Arith .quo x2 z q2) : Same2 q q2 := by
  rcases h with rfl | ⟨a, b⟩
  · exact h1.same h2
  · rcases h1 with h1 | ⟨_, h1⟩
    · rw [quo_nan _ _ a] at h1; cases h1
    · rcases h2 with h2 | ⟨_, h2⟩
      · rw [quo_nan _ _ b] at h2; cases h2
      · exact .inr ⟨h1, h2⟩
/-- What a callback comes to: a number of some kind, or a refused value (a text, or nil). -/
inductive Res where
  | num (R : Nat → Prop)
  | bad (t : Option ByteArray)
def valOf : Option ByteArray → Value
  | some t => .iface 9 (.string t)
  | none => .nilIface
def AnsR (name : ByteArray) (res : Res) (r : Value) (w : World) : Prop := match res with
  | .num R => ∃ b, R b ∧ r = .iface 22 (.float .f64 b)
  | .bad t => ∃ g, r = .iface 62 (.pointer (some ⟨g, 0, none⟩)) ∧ g < w.heap.size ∧ w.cell? ⟨g, 0, none⟩ = some (.string name) ∧ w.cell? ⟨g, 1, none⟩ = some (valOf t)
def OutR (name : ByteArray) (res : Res) (V : Value) : Prop := match res with
  | .num R => ∃ b, R b ∧ V = .agg #[.bool true, .float .f64 b, .bool false, .string ByteArray.empty, .int .i64 2, .string ByteArray.empty]
  | .bad (some t) => V = .agg #[.bool false, .float .f64 0, .bool true, .string name, .int .i64 1, .string t]
  | .bad none => V = .agg #[.bool false, .float .f64 0, .bool true, .string name, .int .i64 0, .string ByteArray.empty]
theorem OutR.shape {name : ByteArray} {res : Res} {V : Value} (h : OutR name res V) : ∃ a q c s k s2, V = .agg #[.bool a, .float .f64 q, .bool c, .string s, .int .i64 k, .string s2] := by
  rcases res with R | (_ | t)
  · obtain ⟨b, _, h⟩ := h
    exact ⟨_, _, _, _, _, _, h⟩
  · exact ⟨_, _, _, _, _, _, h⟩
  · exact ⟨_, _, _, _, _, _, h⟩
def okOut (name : ByteArray) (res : Res) (a : Bool) (q : Nat) (c : Bool) (s : ByteArray) (k : Int) (s2 : ByteArray) : Prop := OutR name res (.agg #[.bool a, .float .f64 q, .bool c, .string s, .int .i64 k, .string s2])
theorem out_any (name : ByteArray) (res : Res) (r : Value) (w : World) (h : AnsR name res r w) : Calls Tryz.prog 22 #[r] w fun e w' => (∃ a q c s k s2, e = .returned (.agg #[.bool a, .float .f64 q, .bool c, .string s, .int .i64 k, .string s2]) ∧ okOut name res a q c s k s2) ∧ Below w.heap.size w w' := by
  rcases res with R | (_ | t)
  · obtain ⟨b, hR, rfl⟩ := h
    exact (out_float b w).mono fun e w' h => ⟨⟨_, _, _, _, _, _, h.1, b, hR, rfl⟩, h.2⟩
  · obtain ⟨g, rfl, h1, h2, h3⟩ := h
    exact (out_nil g name w h1 h2 h3).mono fun e w' h => ⟨⟨_, _, _, _, _, _, h.1, rfl⟩, h.2⟩
  · obtain ⟨g, rfl, h1, h2, h3⟩ := h
    exact (out_str g name t w h1 h2 h3).mono fun e w' h => ⟨⟨_, _, _, _, _, _, h.1, rfl⟩, h.2⟩
/-- An argument of some kind: its number, or the refusal. -/
def resOf (kd x : Nat) (n : Int) (t : ByteArray) (next : Nat → Res) : Res :=
  if kd < 3 then next (fOf kd x n) else .bad (if kd = 3 then some t else none)
def txtOf (kd : Nat) (t : ByteArray) : Option ByteArray := if kd = 3 then some t else none
theorem resOf_ok {kd : Nat} (h : kd < 3) (x : Nat) (n : Int) (t : ByteArray) (next : Nat → Res) : resOf kd x n t next = next (fOf kd x n) := if_pos h
theorem resOf_bad {kd : Nat} (h : ¬ kd < 3) (x : Nat) (n : Int) (t : ByteArray) (next : Nat → Res) : resOf kd x n t next = .bad (txtOf kd t) := if_neg h
theorem any_bad {kd : Nat} (h : ¬ kd < 3) (hk : kd < 5) (x : Nat) (n : Int) (t : ByteArray) : anyOf kd x n t = valOf (txtOf kd t) := by
  rcases (show kd = 3 ∨ kd = 4 by omega) with rfl | rfl <;> rfl
set_option maxRecDepth 100000 in
set_option maxHeartbeats 2000000 in
theorem sub_any (l r : Nat) (w : World) : Calls Tryz.prog 16 #[.float .f64 l, .float .f64 r] w fun e w' => (∃ d, e = .returned (.float .f64 d) ∧ Arith .sub l r d) ∧ Below w.heap.size w w' := by
  cases h : floatBits .sub .f64 l r with
  | some d =>
    have k1 := fun (t : TypeId) w => run_float_arith (P := Tryz.prog) w .sub t .f64 l r d h
    go_enter Tryz.func16, Tryz.ntmps16
    go_wp2
    go_ret
    exact ⟨⟨d, rfl, .inl h⟩, Below.refl _ _⟩
  | none =>
    have k1 := fun (t : TypeId) w => Str.run_float_none (P := Tryz.prog) w .sub t l r (.inr (.inl rfl)) h
    go_enter Tryz.func16, Tryz.ntmps16
    go_wp2
    go_ret
    exact ⟨⟨_, rfl, .inr ⟨h, nan_isNaN _ _ _⟩⟩, by first | exact (Below.refl _ _).drew | go_grown⟩
set_option maxRecDepth 100000 in
set_option maxHeartbeats 2000000 in
theorem dd_any (x y z : Nat) (w : World) : Calls Tryz.prog 19 #[.float .f64 x, .float .f64 y, .float .f64 z] w fun e w' => (∃ q, e = .returned (.float .f64 q) ∧ ∃ d, Arith .sub x y d ∧ Arith .quo d z q) ∧ Below w.heap.size w w' := by
  cases h : floatBits .sub .f64 x y with
  | some d =>
    have k1 := fun (t : TypeId) w => run_float_arith (P := Tryz.prog) w .sub t .f64 x y d h
    cases h2 : floatBits .quo .f64 d z with
    | some q =>
      have k2 := fun (t : TypeId) w => run_float_arith (P := Tryz.prog) w .quo t .f64 d z q h2
      go_enter Tryz.func19, Tryz.ntmps19
      go_wp2
      go_ret
      exact ⟨⟨q, rfl, d, .inl h, .inl h2⟩, by first | exact Below.refl _ _ | go_grown⟩
    | none =>
      have k2 := fun (t : TypeId) w => Str.run_float_none (P := Tryz.prog) w .quo t d z (.inr (.inr (.inr rfl))) h2
      go_enter Tryz.func19, Tryz.ntmps19
      go_wp2
      go_ret
      exact ⟨⟨_, rfl, d, .inl h, .inr ⟨h2, nan_isNaN _ _ _⟩⟩, by first | exact (Below.refl _ _).drew | go_grown⟩
  | none =>
    have k1 := fun (t : TypeId) w => Str.run_float_none (P := Tryz.prog) w .sub t x y (.inr (.inl rfl)) h
    have k2 := fun (t : TypeId) (w w2 : World) => Str.run_float_none (P := Tryz.prog) w .quo t (Str.nanAt x y w2) z (.inr (.inr (.inr rfl))) (quo_nan _ _ (nan_isNaN x y w2))
    go_enter Tryz.func19, Tryz.ntmps19
    go_wp2
    go_ret
    exact ⟨⟨_, rfl, Str.nanAt x y w, .inr ⟨h, nan_isNaN _ _ _⟩, .inr ⟨quo_nan _ _ (nan_isNaN _ _ _), nan_isNaN _ _ _⟩⟩, by first | exact (Below.refl _ _).drew.drew | exact (Below.refl _ _).drew | go_grown⟩
set_option maxRecDepth 100000 in
set_option maxHeartbeats 2000000 in
theorem same_any (a b : Nat) (hab : Same2 a b) (w : World) : Calls Tryz.prog 26 #[.float .f64 a, .float .f64 b] w fun e w' => e = .returned (.bool true) ∧ Below w.heap.size w w' := by
  rcases hab with rfl | ⟨h1, h2⟩
  · have n1 : (FloatKind.f64.format.order a a != some .eq) = FloatKey.isNaN a := by
      have e := FloatKey.eq_self a
      show (!(Ieee.double.order a a == some .eq)) = _
      rw [e]; simp
    cases c : FloatKey.isNaN a
    · rw [c] at n1
      cases c0 : (FloatKind.f64.format.order a 0 == some .eq)
      · go_enter Tryz.func26, Tryz.ntmps26
        go_wp2
        go_ret
        exact ⟨rfl, by first | exact Below.refl _ _ | go_grown⟩
      · cases h : floatBits .quo .f64 4607182418800017408 a with
        | some q =>
          have k1 := fun (t : TypeId) w => run_float_arith (P := Tryz.prog) w .quo t .f64 4607182418800017408 a q h
          cases c1 : (FloatKind.f64.format.order q 0 == some .gt)
          all_goals (go_enter Tryz.func26, Tryz.ntmps26)
          all_goals go_wp2
          all_goals go_ret
          all_goals exact ⟨rfl, by first | exact Below.refl _ _ | go_grown⟩
        | none =>
          have k1 := fun (t : TypeId) w => Str.run_float_none (P := Tryz.prog) w .quo t 4607182418800017408 a (.inr (.inr (.inr rfl))) h
          have k2 : ∀ w : World, (FloatKind.f64.format.order (Str.nanAt 4607182418800017408 a w) 0 == some .gt) = false := fun w => by rw [show FloatKind.f64.format.order (Str.nanAt 4607182418800017408 a w) 0 = none from FloatKey.order_nanL _ _ (nan_isNaN _ _ _)]; rfl
          go_enter Tryz.func26, Tryz.ntmps26
          go_wp2
          go_ret
          exact ⟨rfl, by first | exact (Below.refl _ _).drew.drew | exact Below.refl _ _ | go_grown⟩
    · rw [c] at n1
      go_enter Tryz.func26, Tryz.ntmps26
      go_wp2
      go_ret
      exact ⟨rfl, by first | exact Below.refl _ _ | go_grown⟩
  · have n1 : (FloatKind.f64.format.order a a != some .eq) = true := by rw [show FloatKind.f64.format.order a a = none from FloatKey.order_nanL _ _ h1]; rfl
    have n2 : (FloatKind.f64.format.order b b != some .eq) = true := by rw [show FloatKind.f64.format.order b b = none from FloatKey.order_nanL _ _ h2]; rfl
    go_enter Tryz.func26, Tryz.ntmps26
    go_wp2
    go_ret
    exact ⟨rfl, by first | exact Below.refl _ _ | go_grown⟩
set_option maxRecDepth 100000 in
set_option maxHeartbeats 2000000 in
theorem got_any (q want : Nat) (h : Same2 q want) (w : World) : Calls Tryz.prog 13 #[.agg #[.bool true, .float .f64 q, .bool false, .string ByteArray.empty, .int .i64 2, .string ByteArray.empty], .float .f64 want] w fun e w' => e = .returned (.bool true) ∧ Below w.heap.size w w' := by
  have HS := Lib.hid (fun w => same_any q want h w)
  go_enter Tryz.func13, Tryz.ntmps13
  go_wp2_with (go_at_call 26; refine (HS.out _).mono ?_; rintro e w' ⟨rfl, hb⟩)
  go_ret
  refine ⟨rfl, ?_⟩
  exact Below.trans (by go_grown) (hb.mono (by first | (simp; done) | (simp; omega)))
set_option maxRecDepth 100000 in
set_option maxHeartbeats 2000000 in
theorem ref_any (name t : ByteArray) (k : Int) (h0 : 0 ≤ k) (kd : Nat) (hk : k % 5 = kd) (h3 : ¬ kd < 3) (a : Bool) (q : Nat) (c : Bool) (s : ByteArray) (k2 : Int) (s2 : ByteArray) (h : okOut name (.bad (txtOf kd t)) a q c s k2 s2) (w : World) : Calls Tryz.prog 12 #[.agg #[.bool a, .float .f64 q, .bool c, .string s, .int .i64 k2, .string s2], .string name, .int .u8 k, .string t] w fun e w' => e = .returned (.bool true) ∧ Below w.heap.size w w' := by
  have hkd : kd < 5 := by omega
  have hr : k.tmod 5 = (kd : Int) := by rw [Int.tmod_eq_emod_of_nonneg h0]; exact hk
  rcases (show kd = 3 ∨ kd = 4 by omega) with rfl | rfl
  · have hr2 : k.tmod 5 = 3 := hr
    have hr3 : k % 5 = 3 := hk
    have e : (.agg #[.bool a, .float .f64 q, .bool c, .string s, .int .i64 k2, .string s2] : Value) = .agg #[.bool false, .float .f64 0, .bool true, .string name, .int .i64 1, .string t] := h
    rw [e]
    clear hr hk e h
    go_enter Tryz.func12, Tryz.ntmps12
    go_wp2
    go_ret
    exact ⟨rfl, by first | exact Below.refl _ _ | go_grown⟩
  · have hr2 : k.tmod 5 = 4 := hr
    have hr3 : k % 5 = 4 := hk
    have e : (.agg #[.bool a, .float .f64 q, .bool c, .string s, .int .i64 k2, .string s2] : Value) = .agg #[.bool false, .float .f64 0, .bool true, .string name, .int .i64 0, .string ByteArray.empty] := h
    rw [e]
    clear hr hk e h
    go_enter Tryz.func12, Tryz.ntmps12
    go_wp2
    go_ret
    exact ⟨rfl, by first | exact Below.refl _ _ | go_grown⟩
end Go.Proofs.YtipinccflmmepaaGreatDoor
