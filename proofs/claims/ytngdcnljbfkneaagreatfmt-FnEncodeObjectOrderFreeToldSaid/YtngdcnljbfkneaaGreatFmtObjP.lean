/- Plain facts, no program: the object that a list of pairs makes: the last value at each key; a strictly ordered list of pairs is told by its members; byte order told at the first difference; sorting by neighbours. -/
import Derived.Sort.Statements
namespace Go.ObjP

abbrev Key := List UInt8
theorem lt_of_lt_of_lt {a b c : Key} (h1 : a < b) (h2 : b < c) : a < c := List.lt_trans h1 h2
theorem lt_or {a b : Key} (h : a ≠ b) (h2 : ¬ a < b) : b < a := by
  rcases List.le_iff_lt_or_eq.1 (List.not_lt.1 h2) with h3 | h3
  · exact h3
  · exact absurd h3.symm h

/-- The last value among the first n pairs at key k. -/
def lastv (kz : Nat → Key) (vz : Nat → Int) : Nat → Key → Option Int
  | 0, _ => none
  | n + 1, k => if kz n = k then some (vz n) else lastv kz vz n k
theorem lastv_at (kz : Nat → Key) (vz : Nat → Int) {i : Nat} : ∀ {n : Nat}, i < n → (∀ j, i < j → j < n → kz j ≠ kz i) → lastv kz vz n (kz i) = some (vz i)
  | 0, h, _ => absurd h (Nat.not_lt_zero _)
  | n + 1, h, hn => by
    unfold lastv
    by_cases c : kz n = kz i
    · rw [if_pos c]
      by_cases e : i = n
      · rw [e]
      · exact absurd c (hn n (by omega) (by omega))
    · rw [if_neg c]
      have e : i ≠ n := fun e => c (by rw [e])
      exact lastv_at kz vz (by omega) fun j h1 h2 => hn j h1 (by omega)
theorem lastv_some (kz : Nat → Key) (vz : Nat → Int) {k : Key} {v : Int} : ∀ {n : Nat}, lastv kz vz n k = some v → ∃ i, i < n ∧ kz i = k ∧ vz i = v
  | 0, h => by simp [lastv] at h
  | n + 1, h => by
    unfold lastv at h
    by_cases c : kz n = k
    · rw [if_pos c] at h
      exact ⟨n, by omega, c, by simpa using h⟩
    · rw [if_neg c] at h
      obtain ⟨i, hi, h2⟩ := lastv_some kz vz h
      exact ⟨i, by omega, h2⟩
theorem lastv_none (kz : Nat → Key) (vz : Nat → Int) {k : Key} : ∀ {n : Nat}, (∀ i, i < n → kz i ≠ k) → lastv kz vz n k = none
  | 0, _ => rfl
  | n + 1, h => by
    unfold lastv
    rw [if_neg (h n (by omega))]
    exact lastv_none kz vz fun i hi => h i (by omega)

/-- l is the object that f tells, in the order of its keys. -/
def IsObj (f : Key → Option Int) (l : List (Key × Int)) : Prop := l.Pairwise (fun a b => a.1 < b.1) ∧ ∀ p : Key × Int, p ∈ l ↔ f p.1 = some p.2
theorem IsObj.unique {f : Key → Option Int} {l l' : List (Key × Int)} (h : IsObj f l) (h' : IsObj f l') : l = l' := by
  have nd : ∀ {l : List (Key × Int)}, IsObj f l → l.Nodup := fun h => List.Pairwise.imp (S := fun a b => a ≠ b) (fun {a b} (hab : a.1 < b.1) (e : a = b) => absurd (e ▸ hab : b.1 < b.1) (List.lt_irrefl _)) h.1
  have hp : l.Perm l' := (List.perm_ext_iff_of_nodup (nd h) (nd h')).2 fun p => by rw [h.2, h'.2]
  refine List.Perm.eq_of_pairwise (le := fun a b => a.1 < b.1) (fun a b _ _ h1 h2 => absurd (lt_of_lt_of_lt h1 h2) (List.lt_irrefl _)) h.1 h'.1 hp
theorem isObj_nil : IsObj (fun _ => none) [] := ⟨List.Pairwise.nil, fun p => by simp⟩

/-! ### the pairs told from the end backwards, each key once -/
/-- m pairs told: the indices n-1, n-2, .., n-m. -/
def told (kz : Nat → Key) (vz : Nat → Int) (n : Nat) : Nat → List (Key × Int)
  | 0 => []
  | m + 1 => if kz (n - 1 - m) ∈ (told kz vz n m).map Prod.fst then told kz vz n m else told kz vz n m ++ [(kz (n - 1 - m), vz (n - 1 - m))]
theorem told_len (kz : Nat → Key) (vz : Nat → Int) (n : Nat) : ∀ m, (told kz vz n m).length ≤ m
  | 0 => Nat.le_refl _
  | m + 1 => by
    have := told_len kz vz n m
    unfold told
    split
    · omega
    · simp; exact this
structure Told (kz : Nat → Key) (vz : Nat → Int) (n m : Nat) (l : List (Key × Int)) : Prop where
  nd : (l.map Prod.fst).Nodup
  key : ∀ k, k ∈ l.map Prod.fst ↔ ∃ i, n - m ≤ i ∧ i < n ∧ kz i = k
  val : ∀ p ∈ l, lastv kz vz n p.1 = some p.2
theorem told_is (kz : Nat → Key) (vz : Nat → Int) (n : Nat) : ∀ m, m ≤ n → Told kz vz n m (told kz vz n m)
  | 0, _ => ⟨List.nodup_nil, fun k => by simp [told]; omega, fun p hp => by simp [told] at hp⟩
  | m + 1, hm => by
    have h := told_is kz vz n m (by omega)
    unfold told
    split
    · rename_i c
      refine ⟨h.nd, fun k => ⟨fun hk => ?_, fun ⟨i, h1, h2, h3⟩ => ?_⟩, h.val⟩
      · obtain ⟨i, h1, h2, h3⟩ := (h.key k).1 hk
        exact ⟨i, by omega, h2, h3⟩
      · by_cases e : i = n - 1 - m
        · subst e; subst h3; exact c
        · exact (h.key k).2 ⟨i, by omega, h2, h3⟩
    · rename_i c
      refine ⟨?_, fun k => ?_, fun p hp => ?_⟩
      · rw [List.map_append, List.nodup_append]
        refine ⟨h.nd, by simp, fun a ha b hb => ?_⟩
        simp at hb
        subst hb
        exact fun e => c (e ▸ ha)
      · rw [List.map_append, List.mem_append, h.key]
        constructor
        · rintro (⟨i, h1, h2, h3⟩ | hk)
          · exact ⟨i, by omega, h2, h3⟩
          · simp at hk
            exact ⟨n - 1 - m, by omega, by omega, hk.symm⟩
        · rintro ⟨i, h1, h2, h3⟩
          by_cases e : i = n - 1 - m
          · subst e; exact Or.inr (by simp [h3])
          · exact Or.inl ⟨i, by omega, h2, h3⟩
      · rw [List.mem_append] at hp
        rcases hp with hp | hp
        · exact h.val p hp
        · simp at hp
          subst hp
          exact lastv_at kz vz (by omega) fun j h1 h2 e => c ((h.key _).2 ⟨j, by omega, h2, e⟩)
theorem told_mem (kz : Nat → Key) (vz : Nat → Int) (n : Nat) (p : Key × Int) : p ∈ told kz vz n n ↔ lastv kz vz n p.1 = some p.2 := by
  have h := told_is kz vz n n (Nat.le_refl _)
  refine ⟨h.val p, fun hp => ?_⟩
  obtain ⟨i, h1, h2, h3⟩ := lastv_some kz vz hp
  have hk := (h.key p.1).2 ⟨i, by omega, h1, h2⟩
  obtain ⟨q, hq, hqe⟩ := List.mem_map.1 hk
  have := h.val q hq
  rw [hqe, hp] at this
  obtain ⟨a, b⟩ := p
  obtain ⟨c, d⟩ := q
  simp at this hqe
  subst this; subst hqe
  exact hq
/-- A list of pairs with no key twice, made into an object anew: the same object. -/
theorem lastv_list (l : List (Key × Int)) (hnd : (l.map Prod.fst).Nodup) (kz : Nat → Key) (vz : Nat → Int) (hk : ∀ i (h : i < l.length), kz i = (l[i]).1) (hv : ∀ i (h : i < l.length), vz i = (l[i]).2) (k : Key) (v : Int) :
    lastv kz vz l.length k = some v ↔ (k, v) ∈ l := by
  constructor
  · intro h
    obtain ⟨i, h1, h2, h3⟩ := lastv_some kz vz h
    rw [hk i h1] at h2
    rw [hv i h1] at h3
    subst h2; subst h3
    exact List.getElem_mem h1
  · intro h
    obtain ⟨i, h1, h2⟩ := List.getElem_of_mem h
    have e1 : kz i = k := by rw [hk i h1, h2]
    have e2 : vz i = v := by rw [hv i h1, h2]
    rw [← e1, ← e2]
    refine lastv_at kz vz h1 fun j hj1 hj2 e => ?_
    rw [hk j hj2, hk i h1] at e
    have hnd2 := List.pairwise_iff_getElem.1 hnd i j (by simpa using h1) (by simpa using hj2) hj1
    simp at hnd2
    exact hnd2 e.symm
theorem lastv_again (kz : Nat → Key) (vz : Nat → Int) (n : Nat) (l : List (Key × Int)) (hl : l = told kz vz n n) (kz' : Nat → Key) (vz' : Nat → Int) (hk : ∀ i (h : i < l.length), kz' i = (l[i]).1) (hv : ∀ i (h : i < l.length), vz' i = (l[i]).2) :
    lastv kz' vz' l.length = lastv kz vz n := by
  funext k
  have hnd : (l.map Prod.fst).Nodup := hl ▸ (told_is kz vz n n (Nat.le_refl _)).nd
  have h := fun v => lastv_list l hnd kz' vz' hk hv k v
  have h2 := fun v => told_mem kz vz n (k, v)
  rw [← hl] at h2
  cases e : lastv kz vz n k with
  | some v => exact (h v).2 ((h2 v).2 e)
  | none =>
    cases e2 : lastv kz' vz' l.length k with
    | none => rfl
    | some v => rw [(h2 v).1 ((h v).1 e2)] at e; cases e

/-! ### byte order -/
theorem lex_at : ∀ (i : Nat) (a b : Key) (ha : i < a.length) (hb : i < b.length), (∀ j, j < i → a.getD j 0 = b.getD j 0) → a[i] ≠ b[i] → (a < b ↔ a[i] < b[i])
  | 0, x :: a, y :: b, _, _, _, hne => by
    simp only [List.getElem_cons_zero] at hne ⊢
    rw [List.cons_lt_cons_iff]
    exact ⟨fun h => h.elim id (fun h => absurd h.1 hne), Or.inl⟩
  | i + 1, x :: a, y :: b, ha, hb, he, hne => by
    have h0 := he 0 (by omega)
    simp at h0
    subst h0
    simp only [List.getElem_cons_succ] at hne ⊢
    rw [List.cons_lt_cons_iff, ← lex_at i a b (by simpa using ha) (by simpa using hb) (fun j hj => by have := he (j + 1) (by omega); simpa using this) hne]
    exact ⟨fun h => h.elim (fun h => absurd h (UInt8.lt_irrefl _)) And.right, fun h => Or.inr ⟨rfl, h⟩⟩
  | _, [], _, ha, _, _, _ => absurd ha (Nat.not_lt_zero _)
  | _, _ :: _, [], _, hb, _, _ => absurd hb (Nat.not_lt_zero _)
theorem lex_end : ∀ (a b : Key), (∀ j, j < a.length → j < b.length → a.getD j 0 = b.getD j 0) → (a < b ↔ a.length < b.length)
  | [], [], _ => by simp
  | [], _ :: _, _ => by simp
  | _ :: _, [], _ => by simp
  | x :: a, y :: b, he => by
    have h0 := he 0 (by simp) (by simp)
    simp at h0
    subst h0
    rw [List.cons_lt_cons_iff, lex_end a b (fun j h1 h2 => by have := he (j + 1) (by simpa using h1) (by simpa using h2); simpa using this)]
    simp only [List.length_cons, Nat.add_lt_add_iff_right]
    exact ⟨fun h => h.elim (fun h => absurd h (UInt8.lt_irrefl _)) And.right, fun h => Or.inr ⟨trivial, h⟩⟩

/-! ### sorting by neighbours -/
def sw (j : Nat) (g : Nat → Key × Int) : Nat → Key × Int := fun i => if i = j then g (j - 1) else if i = j - 1 then g j else g i
structure Mem (m : Nat) (l : List (Key × Int)) (g : Nat → Key × Int) : Prop where
  mem : ∀ p, p ∈ l ↔ ∃ i, i < m ∧ g i = p
  ne : ∀ a b, a < m → b < m → a ≠ b → (g a).1 ≠ (g b).1
theorem Mem.sw {m : Nat} {l : List (Key × Int)} {g : Nat → Key × Int} (h : Mem m l g) {j : Nat} (hj : j < m) (_h0 : 0 < j) : Mem m l (sw j g) := by
  let s : Nat → Nat := fun i => if i = j then j - 1 else if i = j - 1 then j else i
  have e : ∀ i, ObjP.sw j g i = g (s i) := fun i => by
    simp only [ObjP.sw, s]
    split
    · rfl
    · split <;> rfl
  have hs : ∀ i, i < m → s i < m := fun i hi => by simp only [s]; split; · omega
                                                   split <;> omega
  have hss : ∀ i, s (s i) = i := fun i => by simp only [s]; split <;> split <;> (try split) <;> omega
  refine ⟨fun p => ?_, fun a b ha hb hne => ?_⟩
  · rw [h.mem]
    constructor
    · rintro ⟨i, hi, rfl⟩; exact ⟨s i, hs i hi, by rw [e, hss]⟩
    · rintro ⟨i, hi, rfl⟩; exact ⟨s i, hs i hi, by rw [e]⟩
  · rw [e, e]
    exact h.ne _ _ (hs a ha) (hs b hb) fun c => hne (by rw [← hss a, c, hss])
/-- The first i in order. -/
def Ord (i : Nat) (g : Nat → Key × Int) : Prop := ∀ a b, a < b → b < i → (g a).1 < (g b).1
/-- The first i + 1 in order but for the one at j, which lies below all behind it. -/
def Hole (i j : Nat) (g : Nat → Key × Int) : Prop := (∀ a b, a < b → b ≤ i → a ≠ j → b ≠ j → (g a).1 < (g b).1) ∧ ∀ b, j < b → b ≤ i → (g j).1 < (g b).1
theorem Ord.hole {i : Nat} {g : Nat → Key × Int} (h : Ord i g) : Hole i i g := ⟨fun a b h1 h2 _ h4 => h a b h1 (by omega), fun b h1 h2 => absurd h1 (by omega)⟩
theorem Hole.sw {i j : Nat} {g : Nat → Key × Int} (h : Hole i j g) (hj : j ≤ i) (h0 : 0 < j) (hlt : (g j).1 < (g (j - 1)).1) : Hole i (j - 1) (sw j g) := by
  have e1 : ObjP.sw j g j = g (j - 1) := by unfold ObjP.sw; rw [if_pos rfl]
  have e2 : ObjP.sw j g (j - 1) = g j := by unfold ObjP.sw; rw [if_neg (by omega), if_pos rfl]
  have e3 : ∀ a, a ≠ j → a ≠ j - 1 → ObjP.sw j g a = g a := fun a h1 h2 => by unfold ObjP.sw; rw [if_neg h1, if_neg h2]
  refine ⟨fun a b h1 h2 h3 h4 => ?_, fun b h1 h2 => ?_⟩
  · by_cases ca : a = j
    · subst ca
      rw [e1, e3 b (by omega) h4]
      exact h.1 _ _ (by omega) h2 (by omega) (by omega)
    · rw [e3 a ca h3]
      by_cases cb : b = j
      · subst cb
        rw [e1]
        exact h.1 _ _ (by omega) (by omega) ca (by omega)
      · rw [e3 b cb h4]
        exact h.1 a b h1 h2 ca cb
  · rw [e2]
    by_cases cb : b = j
    · subst cb; rw [e1]; exact hlt
    · rw [e3 b cb (by omega)]; exact h.2 b (by omega) h2
theorem Hole.done {i j : Nat} {m : Nat} {l : List (Key × Int)} {g : Nat → Key × Int} (h : Hole i j g) (hm : Mem m l g) (him : i < m) (hj : j ≤ i) (hlt : j = 0 ∨ ¬ (g j).1 < (g (j - 1)).1) : Ord (i + 1) g := by
  intro a b h1 h2
  by_cases ca : a = j
  · subst ca; exact h.2 b h1 (by omega)
  · by_cases cb : b = j
    · subst cb
      rcases hlt with h0 | hlt
      · omega
      · have h3 : (g (b - 1)).1 < (g b).1 := lt_or (hm.ne _ _ (by omega) (by omega) (by omega)) hlt
        by_cases c : a = b - 1
        · rw [c]; exact h3
        · exact lt_of_lt_of_lt (h.1 a (b - 1) (by omega) (by omega) ca (by omega)) h3
    · exact h.1 a b h1 (by omega) ca cb
theorem Ord.isObj {m : Nat} {l : List (Key × Int)} {g : Nat → Key × Int} {f : Key → Option Int} (h : Ord m g) (hm : Mem m l g) (hl : ∀ p, p ∈ l ↔ f p.1 = some p.2) : IsObj f ((List.range m).map g) := by
  refine ⟨?_, fun p => ?_⟩
  · rw [List.pairwise_map]
    exact List.pairwise_lt_range.imp_of_mem fun {a b} _ hb hab => h a b hab (List.mem_range.1 hb)
  · rw [← hl, hm.mem, List.mem_map]
    exact ⟨fun ⟨i, hi, he⟩ => ⟨i, List.mem_range.1 hi, he⟩, fun ⟨i, hi, he⟩ => ⟨i, List.mem_range.2 hi, he⟩⟩
theorem mem_of_list (l : List (Key × Int)) (hnd : (l.map Prod.fst).Nodup) (g : Nat → Key × Int) (hg : ∀ i (h : i < l.length), g i = l[i]) : Mem l.length l g := by
  refine ⟨fun p => ⟨fun h => ?_, fun ⟨i, hi, he⟩ => ?_⟩, fun a b ha hb hne e => ?_⟩
  · obtain ⟨i, h1, h2⟩ := List.getElem_of_mem h
    exact ⟨i, h1, by rw [hg i h1, h2]⟩
  · rw [← he, hg i hi]; exact List.getElem_mem hi
  · rw [hg a ha, hg b hb] at e
    have key : ∀ a b (ha : a < l.length) (hb : b < l.length), a < b → (l[a]).1 ≠ (l[b]).1 := fun a b ha hb hab e => by
      have := List.pairwise_iff_getElem.1 hnd a b (by simpa using ha) (by simpa using hb) hab
      simp at this
      exact this e
    rcases Nat.lt_or_gt_of_ne hne with c | c
    · exact key a b ha hb c e
    · exact key b a hb ha c e.symm

/-! ### what a map's entries, sorted, are -/
theorem isObj_of_sorted (f : Key → Option Int) (ss : List Key) (hnd : ss.Nodup) (hmem : ∀ k, k ∈ ss ↔ f k ≠ none) (d : List (Key × Int)) (hp : d.Perm (ss.map fun k => (k, (f k).getD 0)))
    (hs : ∀ i j (hi : i < d.length) (hj : j < d.length), i < j → ¬ (d[j]).1 < (d[i]).1) : IsObj f d := by
  have hk : (d.map Prod.fst).Nodup := by
    have h1 := hp.map Prod.fst
    rw [List.map_map, show (Prod.fst ∘ fun k : Key => (k, (f k).getD 0)) = id from rfl, List.map_id] at h1
    exact h1.nodup_iff.2 hnd
  refine ⟨List.pairwise_iff_getElem.2 fun i j hi hj hij => ?_, fun p => ?_⟩
  · refine lt_or (fun e => ?_) (hs i j hi hj hij)
    have := List.pairwise_iff_getElem.1 hk i j (by simpa using hi) (by simpa using hj) hij
    simp at this
    exact this e.symm
  · rw [hp.mem_iff, List.mem_map]
    constructor
    · rintro ⟨k, hk, rfl⟩
      have := (hmem k).1 hk
      cases e : f k with
      | none => exact absurd e this
      | some v => simp
    · intro h
      obtain ⟨k, v⟩ := p
      exact ⟨k, (hmem k).2 (by rw [h]; simp), by simp at h; simp [h]⟩
/-- There is such a list. -/
theorem obj_exists (kz : Nat → Key) (vz : Nat → Int) (n : Nat) : ∃ l, IsObj (lastv kz vz n) l := by
  have ht := told_is kz vz n n (Nat.le_refl _)
  let le : Key × Int → Key × Int → Bool := fun a b => decide (a.1 ≤ b.1)
  have tr : ∀ a b c : Key × Int, le a b = true → le b c = true → le a c = true := fun a b c h1 h2 => by simp only [le, decide_eq_true_eq] at *; exact List.le_trans h1 h2
  have to : ∀ a b : Key × Int, (le a b || le b a) = true := fun a b => by simp only [le, Bool.or_eq_true, decide_eq_true_eq]; exact List.le_total a.1 b.1
  have hp := List.mergeSort_perm (told kz vz n n) le
  have hs := List.pairwise_mergeSort tr to (told kz vz n n)
  refine ⟨(told kz vz n n).mergeSort le, isObj_of_sorted _ ((told kz vz n n).map Prod.fst) ht.nd (fun k => ?_) _ (hp.trans ?_) fun i j hi hj hij => ?_⟩
  · constructor
    · intro hk
      obtain ⟨p, hp, rfl⟩ := List.mem_map.1 hk
      rw [ht.val p hp]; simp
    · intro hk
      cases e : lastv kz vz n k with
      | none => exact absurd e hk
      | some v => exact List.mem_map.2 ⟨(k, v), (told_mem kz vz n (k, v)).2 e, rfl⟩
  · rw [List.map_map]
    refine List.Perm.of_eq ?_
    symm
    refine (List.map_congr_left fun p hp => ?_).trans (List.map_id _)
    show (p.1, (lastv kz vz n p.1).getD 0) = p
    rw [ht.val p hp]
    rfl
  · have := List.pairwise_iff_getElem.1 hs i j hi hj hij
    simp only [le, decide_eq_true_eq] at this
    exact List.not_lt.2 this
theorem isObj_zero (kz : Nat → Key) (vz : Nat → Int) : IsObj (lastv kz vz 0) [] := isObj_nil
theorem IsObj.len {kz : Nat → Key} {vz : Nat → Int} {n : Nat} {l : List (Key × Int)} (h : IsObj (lastv kz vz n) l) : l.length ≤ n := by
  have hp : l.Perm (told kz vz n n) := by
    refine (List.perm_ext_iff_of_nodup ?_ ?_).2 fun p => by rw [h.2, told_mem]
    · exact List.Pairwise.imp (S := fun a b => a ≠ b) (fun {a b} (hab : a.1 < b.1) (e : a = b) => absurd (e ▸ hab : b.1 < b.1) (List.lt_irrefl _)) h.1
    · have := (told_is kz vz n n (Nat.le_refl _)).nd
      exact List.Pairwise.imp (S := fun a b => a ≠ b) (fun {a b} hab e => hab (by rw [e])) (List.pairwise_map.1 this)
  rw [hp.length_eq]
  exact told_len kz vz n n
end Go.ObjP
