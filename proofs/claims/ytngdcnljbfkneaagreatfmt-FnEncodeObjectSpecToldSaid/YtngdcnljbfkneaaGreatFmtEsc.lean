/- Plain law of texts that are escaped byte by byte (HTML, CSV, URI): no program in sight. -/
import Derived.WalkKit
import Derived.Lib.Join
namespace Go.Esc

def htmlF (b : UInt8) : List UInt8 :=
  if b = 60 then [38, 108, 116, 59] else if b = 62 then [38, 103, 116, 59] else if b = 38 then [38, 97, 109, 112, 59] else if b = 39 then [38, 97, 112, 111, 115, 59] else if b = 34 then [38, 113, 117, 111, 116, 59] else [b]
def csvF (b : UInt8) : List UInt8 := if b = 34 then [34, 34] else if b = 0 then [92, 48] else [b]
theorem htmlF_len (b : UInt8) : (htmlF b).length ≤ 6 := by unfold htmlF; (repeat' split) <;> simp
theorem csvF_len (b : UInt8) : (csvF b).length ≤ 2 := by unfold csvF; (repeat' split) <;> simp
theorem htmlF_pos (b : UInt8) : 0 < (htmlF b).length := by unfold htmlF; (repeat' split) <;> simp
/-- The five bytes, or another. -/
theorem html_cases (b : UInt8) : b = 60 ∨ b = 62 ∨ b = 38 ∨ b = 39 ∨ b = 34 ∨ (b.toNat ≠ 60 ∧ b.toNat ≠ 62 ∧ b.toNat ≠ 38 ∧ b.toNat ≠ 39 ∧ b.toNat ≠ 34 ∧ htmlF b = [b]) := by
  by_cases h1 : b = 60
  · exact Or.inl h1
  by_cases h2 : b = 62
  · exact Or.inr (Or.inl h2)
  by_cases h3 : b = 38
  · exact Or.inr (Or.inr (Or.inl h3))
  by_cases h4 : b = 39
  · exact Or.inr (Or.inr (Or.inr (Or.inl h4)))
  by_cases h5 : b = 34
  · exact Or.inr (Or.inr (Or.inr (Or.inr (Or.inl h5))))
  · refine Or.inr (Or.inr (Or.inr (Or.inr (Or.inr ⟨?_, ?_, ?_, ?_, ?_, ?_⟩))))
    · exact fun h => h1 (UInt8.toNat_inj.1 h)
    · exact fun h => h2 (UInt8.toNat_inj.1 h)
    · exact fun h => h3 (UInt8.toNat_inj.1 h)
    · exact fun h => h4 (UInt8.toNat_inj.1 h)
    · exact fun h => h5 (UInt8.toNat_inj.1 h)
    · unfold htmlF
      rw [if_neg h1, if_neg h2, if_neg h3, if_neg h4, if_neg h5]
theorem csv_cases (b : UInt8) : b = 34 ∨ b = 0 ∨ (b.toNat ≠ 34 ∧ b.toNat ≠ 0 ∧ csvF b = [b]) := by
  by_cases h1 : b = 34
  · exact Or.inl h1
  by_cases h2 : b = 0
  · exact Or.inr (Or.inl h2)
  · refine Or.inr (Or.inr ⟨?_, ?_, ?_⟩)
    · exact fun h => h1 (UInt8.toNat_inj.1 h)
    · exact fun h => h2 (UInt8.toNat_inj.1 h)
    · unfold csvF
      rw [if_neg h1, if_neg h2]

/-! ### A text that stands ahead of another -/
def hasB (p d : List UInt8) : Bool := decide (p.length ≤ d.length ∧ ∀ t, t < p.length → p.getD t 0 = d.getD t 0)
theorem hasB_app (p r : List UInt8) : hasB p (p ++ r) = true := by
  refine decide_eq_true ⟨by rw [List.length_append]; omega, fun t ht => ?_⟩
  rw [List.getD_eq_getElem?_getD, List.getD_eq_getElem?_getD, List.getElem?_append_left ht]
theorem hasB_ne {p d : List UInt8} (t : Nat) (ht : t < p.length) (h : p.getD t 0 ≠ d.getD t 0) : hasB p d = false := decide_eq_false fun c => h (c.2 t ht)
theorem hasB_short {p d : List UInt8} (h : d.length < p.length) : hasB p d = false := decide_eq_false fun c => by have := c.1; omega
theorem hasB_full {p d : List UInt8} (h0 : p.length ≤ d.length) (h : ∀ t, t < p.length → p.getD t 0 = d.getD t 0) : hasB p d = true := decide_eq_true ⟨h0, h⟩

/-! ### The mapped text, cut -/
theorem drop_flat (f : UInt8 → List UInt8) (l : List UInt8) (k : Nat) : (l.flatMap f).drop ((l.take k).flatMap f).length = (l.drop k).flatMap f := by
  have e : l.flatMap f = (l.take k).flatMap f ++ (l.drop k).flatMap f := by rw [← List.flatMap_append, List.take_append_drop]
  rw [e, List.drop_left]
theorem drop_one (l : List UInt8) (k : Nat) (h : k < l.length) : l.drop k = l.getD k 0 :: l.drop (k + 1) := by
  rw [List.drop_eq_getElem_cons h, List.getD_eq_getElem?_getD, List.getElem?_eq_getElem h]; rfl
theorem drop_flat_at (f : UInt8 → List UInt8) (l : List UInt8) (k : Nat) (h : k < l.length) : (l.flatMap f).drop ((l.take k).flatMap f).length = f (l.getD k 0) ++ (l.drop (k + 1)).flatMap f := by
  rw [drop_flat, drop_one l k h, List.flatMap_cons]
theorem getD_drop (l : List UInt8) (i j : Nat) : (l.drop i).getD j 0 = l.getD (i + j) 0 := by
  rw [List.getD_eq_getElem?_getD, List.getD_eq_getElem?_getD, List.getElem?_drop]
theorem flat_full_len (f : UInt8 → List UInt8) (hf : ∀ b, 0 < (f b).length) (l : List UInt8) (k : Nat) : ((l.take k).flatMap f).length < (l.flatMap f).length ↔ k < l.length := by
  have e : l.flatMap f = (l.take k).flatMap f ++ (l.drop k).flatMap f := by rw [← List.flatMap_append, List.take_append_drop]
  have e2 : (l.flatMap f).length = ((l.take k).flatMap f).length + ((l.drop k).flatMap f).length := by rw [← List.length_append, ← e]
  constructor
  · intro h1
    refine Nat.lt_of_not_le fun c => ?_
    rw [List.drop_eq_nil_of_le c, List.flatMap_nil, List.length_nil] at e2
    omega
  · intro h1
    rw [drop_one l k h1, List.flatMap_cons, List.length_append] at e2
    have := hf (l.getD k 0)
    omega

/-! ### Texts joined by a comma -/
/-- What a loop with 'if i > 0' writes of the first k texts. -/
def glue (xs : List (List UInt8)) (sep : List UInt8) : Nat → List UInt8
  | 0 => []
  | k + 1 => glue xs sep k ++ ((if k = 0 then [] else sep) ++ xs.getD k [])
theorem glue_append (xs : List (List UInt8)) (y : List (List UInt8)) (sep : List UInt8) : ∀ k, k ≤ xs.length → glue (xs ++ y) sep k = glue xs sep k
  | 0, _ => rfl
  | k + 1, h => by
    show glue (xs ++ y) sep k ++ _ = glue xs sep k ++ _
    rw [glue_append xs y sep k (by omega), List.getD_eq_getElem?_getD, List.getElem?_append_left (by omega), ← List.getD_eq_getElem?_getD]
theorem join_snoc (xs : List (List UInt8)) (y sep : List UInt8) : sep.intercalate (xs ++ [y]) = sep.intercalate xs ++ ((if xs.length = 0 then [] else sep) ++ y) := by
  induction xs with
  | nil => simp [List.intercalate, List.intersperse]
  | cons x xs ih =>
    cases xs with
    | nil => simp [List.intercalate, List.intersperse]
    | cons z zs =>
      have e1 : sep.intercalate (x :: z :: zs ++ [y]) = x ++ (sep ++ sep.intercalate (z :: zs ++ [y])) := by simp [List.intercalate, List.intersperse]
      have e2 : sep.intercalate (x :: z :: zs) = x ++ (sep ++ sep.intercalate (z :: zs)) := by simp [List.intercalate, List.intersperse]
      rw [e1, e2, ih]
      simp [List.append_assoc]
theorem glue_join (xs : List (List UInt8)) (sep : List UInt8) : ∀ k, k ≤ xs.length → glue xs sep k = Lib.join (xs.take k) sep
  | 0, _ => by simp [glue, Lib.join, List.intercalate]
  | k + 1, h => by
    have e : xs.take (k + 1) = xs.take k ++ [xs.getD k []] := by
      rw [List.take_add_one, List.getElem?_eq_getElem (by omega), List.getD_eq_getElem?_getD, List.getElem?_eq_getElem (by omega)]; rfl
    show glue xs sep k ++ _ = sep.intercalate _
    rw [e, join_snoc, glue_join xs sep k (by omega), List.length_take]
    congr 2
    by_cases c : k = 0
    · rw [if_pos c, if_pos (by omega)]
    · rw [if_neg c, if_neg (by omega)]
theorem glue_all (xs : List (List UInt8)) (sep : List UInt8) : glue xs sep xs.length = Lib.join xs sep := by
  rw [glue_join xs sep _ (Nat.le_refl _), List.take_length]
end Go.Esc
