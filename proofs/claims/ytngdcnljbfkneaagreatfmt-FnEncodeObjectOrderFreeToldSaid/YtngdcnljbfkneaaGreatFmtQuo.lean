/- The text of a jq string, byte by byte: escapes, UTF-8 sequences kept, broken bytes replaced. Plain Lean. -/
import Derived.Lib.DecodeN
namespace Quo
open Go.Lib

def hexD (n : Nat) : UInt8 := if n < 10 then UInt8.ofNat (48 + n) else UInt8.ofNat (87 + n)
/-- What stands for an ASCII byte. -/
def esc (b : UInt8) : List UInt8 :=
  if b.toNat = 34 then [92, 34] else if b.toNat = 92 then [92, 92] else if b.toNat = 8 then [92, 98] else if b.toNat = 12 then [92, 102] else if b.toNat = 10 then [92, 110]
  else if b.toNat = 13 then [92, 114] else if b.toNat = 9 then [92, 116] else if b.toNat < 32 ∨ b.toNat = 127 then [92, 117, 48, 48, hexD (b.toNat / 16), hexD (b.toNat % 16)] else [b]
theorem esc_len (b : UInt8) : 0 < (esc b).length ∧ (esc b).length ≤ 6 := by
  unfold esc
  repeat' split
  all_goals simp
/-- The length of the well-formed sequence that begins b0 b1 b2 b3 (n bytes are left), or 0. -/
def vseq (n b0 b1 b2 b3 : Nat) : Nat :=
  if 194 ≤ b0 ∧ b0 ≤ 223 then (if 1 < n ∧ 128 ≤ b1 ∧ b1 ≤ 191 then 2 else 0)
  else if 224 ≤ b0 ∧ b0 ≤ 239 then
    (if 2 < n ∧ ((if b0 = 224 then 160 else 128) ≤ b1 ∧ b1 ≤ (if b0 = 237 then 159 else 191)) ∧ (128 ≤ b2 ∧ b2 ≤ 191) then 3 else 0)
  else if 240 ≤ b0 ∧ b0 ≤ 244 then
    (if 3 < n ∧ ((if b0 = 240 then 144 else 128) ≤ b1 ∧ b1 ≤ (if b0 = 244 then 143 else 191)) ∧ (128 ≤ b2 ∧ b2 ≤ 191) ∧ (128 ≤ b3 ∧ b3 ≤ 191) then 4 else 0)
  else 0
theorem vseq_le (n b0 b1 b2 b3 : Nat) : vseq n b0 b1 b2 b3 = 0 ∨ (2 ≤ vseq n b0 b1 b2 b3 ∧ vseq n b0 b1 b2 b3 ≤ 4 ∧ vseq n b0 b1 b2 b3 ≤ n) := by
  obtain ⟨v, hv⟩ : ∃ v, vseq n b0 b1 b2 b3 = v := ⟨_, rfl⟩
  rw [hv]
  unfold vseq at hv
  repeat' split at hv
  all_goals omega
set_option maxHeartbeats 4000000 in
theorem decode_vseq (n b0 b1 b2 b3 : Nat) (_hn : 1 ≤ n) (h0 : 128 ≤ b0) (hb0 : b0 < 256) (h1 : b1 < 256) (h2 : b2 < 256) (h3 : b3 < 256) :
    (vseq n b0 b1 b2 b3 = 0 ∧ decodeN n b0 b1 b2 b3 = (65533, 1)) ∨ (2 ≤ vseq n b0 b1 b2 b3 ∧ (decodeN n b0 b1 b2 b3).2 = vseq n b0 b1 b2 b3) := by
  obtain ⟨v, hv⟩ : ∃ v, vseq n b0 b1 b2 b3 = v := ⟨_, rfl⟩
  obtain ⟨d, hd⟩ : ∃ d, decodeN n b0 b1 b2 b3 = d := ⟨_, rfl⟩
  rw [hv, hd]
  unfold vseq at hv
  unfold decodeN at hd
  rw [if_neg (by omega)] at hd
  repeat' split at hv
  all_goals (repeat' split at hd)
  all_goals first
    | (exfalso; omega)
    | (left; exact ⟨hv.symm, hd.symm⟩)
    | (right; subst hv; subst hd; exact ⟨by omega, rfl⟩)

def at0 (l : List UInt8) (i : Nat) : Nat := (l.getD i 0).toNat
def seqAt (l : List UInt8) (i : Nat) : Nat := vseq (l.length - i) (at0 l i) (at0 l (i + 1)) (at0 l (i + 2)) (at0 l (i + 3))
def stepW (l : List UInt8) (i : Nat) : Nat := if at0 l i < 128 then 1 else if seqAt l i = 0 then 1 else seqAt l i
def stepO (l : List UInt8) (i : Nat) : List UInt8 :=
  if at0 l i < 128 then esc (l.getD i 0) else if seqAt l i = 0 then [92, 117, 102, 102, 102, 100] else (l.drop i).take (seqAt l i)
theorem stepW_pos (l : List UInt8) (i : Nat) : 0 < stepW l i := by
  unfold stepW
  repeat' split
  all_goals omega
theorem stepW_le (l : List UInt8) (i : Nat) (h : i < l.length) : i + stepW l i ≤ l.length := by
  unfold stepW
  rcases vseq_le (l.length - i) (at0 l i) (at0 l (i + 1)) (at0 l (i + 2)) (at0 l (i + 3)) with h1 | h1
  · unfold seqAt; rw [h1]; repeat' split
    all_goals omega
  · unfold seqAt; repeat' split
    all_goals omega
theorem stepW_four (l : List UInt8) (i : Nat) : stepW l i ≤ 4 := by
  unfold stepW
  rcases vseq_le (l.length - i) (at0 l i) (at0 l (i + 1)) (at0 l (i + 2)) (at0 l (i + 3)) with h1 | h1
  · unfold seqAt; rw [h1]; repeat' split
    all_goals omega
  · unfold seqAt; repeat' split
    all_goals omega
theorem stepO_len (l : List UInt8) (i : Nat) : (stepO l i).length ≤ 6 * stepW l i := by
  unfold stepO stepW
  split
  · have := (esc_len (l.getD i 0)).2; omega
  · split
    · simp
    · simp; omega
/-- The body behind place i. -/
def from_ (l : List UInt8) : Nat → Nat → List UInt8
  | 0, _ => []
  | k + 1, i => if i < l.length then stepO l i ++ from_ l k (i + stepW l i) else []
theorem from_more (l : List UInt8) : ∀ (k i : Nat), l.length - i ≤ k → ∀ m, k ≤ m → from_ l m i = from_ l k i
  | 0, i, h, m, _ => by
    cases m with
    | zero => rfl
    | succ m => simp only [from_]; rw [if_neg (by omega)]
  | k + 1, i, h, m, hm => by
    obtain ⟨m', rfl⟩ : ∃ m', m = m' + 1 := ⟨m - 1, by omega⟩
    simp only [from_]
    split
    · have := stepW_pos l i
      rw [from_more l k (i + stepW l i) (by omega) m' (by omega)]
    · rfl
def rest (l : List UInt8) (i : Nat) : List UInt8 := from_ l (l.length - i) i
theorem rest_end (l : List UInt8) (i : Nat) (h : l.length ≤ i) : rest l i = [] := by
  unfold rest
  rw [show l.length - i = 0 by omega]
  rfl
theorem rest_step (l : List UInt8) (i : Nat) (h : i < l.length) : rest l i = stepO l i ++ rest l (i + stepW l i) := by
  have hp := stepW_pos l i
  unfold rest
  obtain ⟨k, hk⟩ : ∃ k, l.length - i = k + 1 := ⟨l.length - i - 1, by omega⟩
  rw [hk]
  simp only [from_]
  rw [if_pos h, from_more l (l.length - (i + stepW l i)) (i + stepW l i) (Nat.le_refl _) k (by omega)]
/-- The text of a string between its quotes. -/
def body (l : List UInt8) : List UInt8 := rest l 0
def quote (l : List UInt8) : List UInt8 := 34 :: (body l ++ [34])
/-- How far a loop over the bytes has come: out stands for what is before place i. -/
def Upto (l : List UInt8) (i : Nat) (out : List UInt8) : Prop := i ≤ l.length ∧ out ++ rest l i = body l ∧ out.length ≤ 6 * i
theorem Upto.start (l : List UInt8) : Upto l 0 [] := ⟨Nat.zero_le _, rfl, Nat.le_refl _⟩
theorem Upto.step {l : List UInt8} {i : Nat} {out : List UInt8} (h : Upto l i out) (hi : i < l.length) (w : Nat) (o : List UInt8) (hw : stepW l i = w) (ho : stepO l i = o) : Upto l (i + w) (out ++ o) := by
  subst hw ho
  refine ⟨stepW_le l i hi, ?_, ?_⟩
  · rw [List.append_assoc, ← rest_step l i hi]; exact h.2.1
  · have := stepO_len l i
    have := h.2.2
    rw [List.length_append, Nat.mul_add]; omega
theorem Upto.done {l : List UInt8} {i : Nat} {out : List UInt8} (h : Upto l i out) (hi : l.length ≤ i) : out = body l := by
  have := h.2.1
  rw [rest_end l i hi, List.append_nil] at this
  exact this
theorem body_len (l : List UInt8) : ∃ i out, i ≤ l.length ∧ out = body l ∧ out.length ≤ 6 * i := by
  suffices H : ∀ (k i : Nat) (out : List UInt8), l.length - i ≤ k → Upto l i out → ∃ i out, i ≤ l.length ∧ out = body l ∧ out.length ≤ 6 * i from H (l.length) 0 [] (by omega) (Upto.start l)
  intro k
  induction k with
  | zero => exact fun i out h hu => ⟨i, out, hu.1, hu.done (by omega), hu.2.2⟩
  | succ k ih =>
    intro i out h hu
    by_cases c : i < l.length
    · have := stepW_pos l i
      exact ih (i + stepW l i) _ (by omega) (hu.step c _ _ rfl rfl)
    · exact ⟨i, out, hu.1, hu.done (by omega), hu.2.2⟩
theorem quote_len (l : List UInt8) : (quote l).length ≤ 6 * l.length + 2 := by
  obtain ⟨i, out, h1, rfl, h2⟩ := body_len l
  unfold quote
  simp only [List.length_cons, List.length_append, List.length_nil]
  omega
end Quo
