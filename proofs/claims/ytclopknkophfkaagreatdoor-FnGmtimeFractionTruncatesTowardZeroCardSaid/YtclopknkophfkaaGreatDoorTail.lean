/- A law over any program: a region that draws its order, whose first n operations read, reckon, or call functions that only lay new blocks, and whose last operations stand in one forced order behind them: the first n are walked once, in the order of the text, in every world of a class; then the last ones as a list. -/
import Derived.StillTail
import Derived.Deep.Quiet
import Derived.Lib.QuietBelow
namespace Go.Proofs.YtclopknkophfkaaGreatDoor
open Go Go.Sort Go.RowKit

theorem any_more {P : Program} {md : Region.Mode} {ops : Array Oper} {Q : Exit → Act → World → Prop} : ∀ (f k : Nat) (listed : Array Bool) (a : Act) (w : World), wpAny P md ops Q f listed a w → wpAny P md ops Q (f + k) listed a w
  | 0, 0, _, _, _, h => h
  | 0, k + 1, _, _, _, h => by
    rw [Nat.zero_add]
    exact ⟨fun _ => h.2, fun i hi => by rw [h.1] at hi; cases hi⟩
  | f + 1, k, _, _, _, h => by
    rw [show f + 1 + k = (f + k) + 1 from by omega]
    exact ⟨h.1, fun i hi => wpOp_mono (fun a' w' h' => any_more f k _ a' w' h') (h.2 i hi)⟩

/-- None of the first n operations is guarded, and each waits for earlier ones alone. -/
def plainHead (ops : Array Oper) (n : Nat) : Bool := (List.range n).all fun i => match ops[i]? with
  | some o => o.guard.isNone && o.after.all fun e => decide (e.on < i)
  | none => false
theorem plain_low {ops : Array Oper} {n i : Nat} {o : Oper} (hp : plainHead ops n = true) (hi : i < n) (ho : ops[i]? = some o) : o.guard = none ∧ ∀ e ∈ o.after, e.on < i := by
  have h := List.all_eq_true.1 hp i (List.mem_range.2 hi)
  rw [ho] at h
  simp only [Bool.and_eq_true, Option.isNone_iff_eq_none] at h
  exact ⟨h.1, fun e he => by have := Array.all_eq_true_iff_forall_mem.1 h.2 e he; simpa using this⟩
theorem getD_any {l : Array Bool} {i : Nat} (h : i < l.size) (d d' : Bool) : l.getD i d = l.getD i d' := by simp [Array.getD, h]

theorem headQ_ready {md : Region.Mode} {ops hops : Array Oper} {n : Nat} {lh listed : Array Bool} (hpre : ∀ i, i < n → ops[i]? = hops[i]?) (hp : plainHead ops n = true)
    (hl : ∀ i, i < n → listed.getD i true = lh.getD i true) (s1 : lh.size = n) (s2 : n ≤ listed.size) {i : Nat} (hi : i < n) : i ∈ Region.ready md ops listed ↔ i ∈ Region.ready md hops lh := by
  rw [mem_ready, mem_ready, hl i hi, hpre i hi]
  have key : ∀ o, hops[i]? = some o → ∀ e ∈ o.after, listed.getD e.on false = lh.getD e.on false := fun o ho e he => by
    have hlt := (plain_low hp hi ((hpre i hi).trans ho)).2 e he
    rw [getD_any (l := listed) (by omega) false true, getD_any (l := lh) (by omega) false true]
    exact hl _ (by omega)
  constructor
  · rintro ⟨h0, o, ho, h⟩
    exact ⟨h0, o, ho, fun e he hb => (key o ho e he).symm.trans (h e he hb)⟩
  · rintro ⟨h0, o, ho, h⟩
    exact ⟨h0, o, ho, fun e he hb => (key o ho e he).trans (h e he hb)⟩
theorem all_listed {md : Region.Mode} {ops hops : Array Oper} {n : Nat} {lh : Array Bool} (hpre : ∀ i, i < n → ops[i]? = hops[i]?) (hsz : hops.size = n) (hp : plainHead ops n = true) (s1 : lh.size = n)
    (h : Region.ready md hops lh = []) : ∀ i, i < n → lh.getD i true = true := by
  intro i
  induction i using Nat.strongRecOn with
  | ind i ih =>
    intro hi
    cases hv : lh.getD i true with
    | true => rfl
    | false =>
      have ho : hops[i]? = some hops[i] := Array.getElem?_eq_getElem (by omega)
      have : i ∈ Region.ready md hops lh := mem_ready.2 ⟨hv, _, ho, fun e he _ => by
        have hlt := (plain_low hp hi ((hpre i hi).trans ho)).2 e he
        rw [getD_any (l := lh) (by omega) false true]
        exact ih e.on hlt (by omega)⟩
      rw [h] at this
      cases this
theorem wanted_plain {ops hops : Array Oper} {a : Act} {o : Oper} (h : o.guard = none) : Region.wanted o (yielded ops a.tmps) = Region.wanted o (yielded hops a.tmps) := by
  unfold Region.wanted
  rw [h]

theorem any_of_headQ {P : Program} {md : Region.Mode} {ops hops : Array Oper} {C : World → Prop} {L : Act → Prop} {Q' : Exit → Act → World → Prop} {n m : Nat} (hs : Region.sinkB md ops n = true) (hc : Region.chainB md ops n = true)
    (hn : n < ops.size) (hsz : hops.size = n) (hpre : ∀ i, i < n → ops[i]? = hops[i]?) (hp : plainHead ops n = true)
    (hend : ∀ listed a w, C w → L a → HeadInv md ops n listed → (∀ i, i < n → listed.getD i true = true) → wpAny P md ops Q' m listed a w) :
    ∀ (f : Nat) (lh listed : Array Bool) (a : Act) (w : World), C w → lh.size = n → (∀ i, i < n → listed.getD i true = lh.getD i true) → HeadInv md ops n listed → wpAnyQ P md hops C L f lh a → wpAny P md ops Q' (f + m) listed a w
  | 0, lh, listed, a, w, hw, s1, hl, inv, h => by
    rw [Nat.zero_add]
    exact hend listed a w hw h.2 inv fun i hi => (hl i hi).trans (all_listed hpre hsz hp s1 h.1 i hi)
  | f + 1, lh, listed, a, w, hw, s1, hl, inv, h => by
    have s2 : n ≤ listed.size := by rw [inv.size]; omega
    by_cases hr : Region.ready md hops lh = []
    · have h1 := hend listed a w hw (h.1 hr) inv fun i hi => (hl i hi).trans (all_listed hpre hsz hp s1 hr i hi)
      have h2 := any_more m (f + 1) _ _ _ h1
      rwa [Nat.add_comm] at h2
    · obtain ⟨j, hj⟩ := List.exists_mem_of_ne_nil _ hr
      have hjn : j < n := by
        obtain ⟨_, o, ho, _⟩ := mem_ready.1 hj
        rw [← hsz]
        exact (Array.getElem?_eq_some_iff.1 ho).1
      have hun : listed.getD j true = false := (hl j hjn).trans (mem_ready.1 hj).1
      rw [show f + 1 + m = (f + m) + 1 from by omega]
      refine ⟨fun h0 => ?_, fun i hi => ?_⟩
      · have h1 := (headQ_ready (md := md) hpre hp hl s1 s2 hjn).2 hj
        rw [h0] at h1
        cases h1
      · have hin : i < n := by
          rcases Nat.lt_or_ge i n with c | c
          · exact c
          · exact absurd hi (tail_waits hs hc hn inv _ j rfl hjn hun i c)
        have hq := h.2 i ((headQ_ready hpre hp hl s1 s2 hin).1 hi)
        have hset : ∀ k, k < n → (listed.setIfInBounds i true).getD k true = (lh.setIfInBounds i true).getD k true := fun k hk => by
          by_cases c : i = k
          · subst c
            simp only [Array.getD_eq_getD_getElem?, Array.getElem?_setIfInBounds, if_true]
            rw [if_pos (by omega), if_pos (by omega)]
          · rw [getD_set_ne true c, getD_set_ne true c]
            exact hl k hk
        have hw' : wpOp P hops Q' i (wpAny P md ops Q' (f + m) (listed.setIfInBounds i true)) a w :=
          wpOp_of_qOp hw (fun a' w' hC' hK => any_of_headQ hs hc hn hsz hpre hp hend f (lh.setIfInBounds i true) (listed.setIfInBounds i true) a' w' hC' (by simp [s1]) hset (inv.set hi hin) hK) hq
        unfold wpOp at hw' ⊢
        rw [hpre i hin]
        have ho : hops[i]? = some hops[i] := Array.getElem?_eq_getElem (by omega)
        rw [ho] at hw' ⊢
        simp only at hw' ⊢
        rw [wanted_plain (ops := ops) (hops := hops) (plain_low hp hin ((hpre i hin).trans ho)).1]
        exact hw'

def tailB (ops hops : Array Oper) (n : Nat) : Bool := Region.sinkB .any ops n && Region.chainB .any ops n && decide (n < ops.size) && plainHead ops n && Region.lexB .any hops && Region.seqB .any ops (ops.size - n) n (Array.replicate n true ++ Array.replicate (ops.size - n) false)
theorem wp_region_quiet_tail {P : Program} {id : Nat} {Q : Exit → Act → World → Prop} {a : Act} {w : World} {l : List Oper} {C : World → Prop} (n : Nat) (hm : P.follows .mixedOrders = true) (hB : tailB l.toArray (l.take n).toArray n = true) (hC : C { w with drawn := w.drawn + 1 })
    (h : wpQuiet P (l.take n).toArray C (fun a' => ∀ w', C w' → wpList P l.toArray Q (l.drop n) a' w') (l.take n) a) : (Code.region id l.toArray true).wp P Q a w := by
  simp only [tailB, Bool.and_eq_true, decide_eq_true_eq] at hB
  obtain ⟨⟨⟨⟨⟨hs, hc⟩, hn⟩, hp⟩, hlex⟩, hseq⟩ := hB
  have hn' : n < l.length := by simpa using hn
  have htl : (l.take n).length = n := by simp; omega
  have inv0 : HeadInv .any l.toArray n (Array.replicate l.toArray.size false) :=
    ⟨by simp, fun j oj _ hl => (by rw [getD_replicate_false] at hl; cases hl), fun t _ ht => getD_in (by simpa using ht) (getD_replicate_false _ _)⟩
  simp only [Region.lexB, Bool.and_eq_true] at hlex
  have H := wpAnyQ_lex (C := C) (md := .any) hlex.1 (l.take n) 0 (Array.replicate n false) a (by simp) (by simpa [htl] using hlex.2) h
  rw [htl] at H
  refine wp_region_any hm ?_
  have hpre : ∀ i, i < n → l.toArray[i]? = (l.take n).toArray[i]? := fun i hi => by simp [hi]
  have G := any_of_headQ (Q' := Q) (m := l.toArray.size - n) hs hc hn (by simp; omega) hpre hp (fun listed a' w' hC' hL inv hall => by
    have e : listed = Array.replicate n true ++ Array.replicate (l.toArray.size - n) false := by
      apply Array.ext
      · rw [inv.size]; simp; omega
      · intro i h1 h2
        have h3 : i < l.toArray.size := by rw [← inv.size]; exact h1
        by_cases c : i < n
        · have := hall i c
          simp [Array.getD, h1] at this
          rw [this, Array.getElem_append_left (by simpa using c)]
          simp
        · have := inv.tail i (by omega) h3
          simp [Array.getD, h1] at this
          rw [this, Array.getElem_append_right (by simp; omega)]
          simp
    rw [e]
    have hd : (l.drop n).length = l.toArray.size - n := by simp
    have := wpAny_of_seq (P := P) (md := .any) (ops := l.toArray) (Q' := Q) (l.drop n) n (Array.replicate n true ++ Array.replicate (l.toArray.size - n) false) a' w' (fun j => by simp [List.getElem?_drop]) (by rw [hd]; exact hseq) (hL w' hC')
    rwa [hd] at this) n (Array.replicate n false) _ a { w with drawn := w.drawn + 1 } hC (by simp) (fun i hi => by
      have h1 : i < l.length := by omega
      simp [Array.getD, hi, h1]) inv0 H
  rw [show n + (l.toArray.size - n) = l.toArray.size from by omega] at G
  exact G
end Go.Proofs.YtclopknkophfkaaGreatDoor
