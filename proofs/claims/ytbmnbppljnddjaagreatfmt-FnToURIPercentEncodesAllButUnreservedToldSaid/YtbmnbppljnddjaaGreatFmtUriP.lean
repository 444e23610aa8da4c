/- Plain law of @uri: query escaping and then '+' for "%20" is percent encoding. No program in sight. -/
import Derived.WalkKit
namespace Go.Uri

def unr (x : Nat) : Bool := (decide (65 ≤ x) && decide (x ≤ 90)) || (decide (97 ≤ x) && decide (x ≤ 122)) || (decide (48 ≤ x) && decide (x ≤ 57)) || x == 45 || x == 95 || x == 46 || x == 126
def hexT : List UInt8 := [48, 49, 50, 51, 52, 53, 54, 55, 56, 57, 65, 66, 67, 68, 69, 70]
def hx (d : Nat) : UInt8 := hexT.getD d 0
def uriF (b : UInt8) : List UInt8 := if unr b.toNat then [b] else [37, hx (b.toNat / 16), hx (b.toNat % 16)]
def qF (b : UInt8) : List UInt8 := if b = 32 then [43] else if unr b.toNat then [b] else [37, hx (b.toNat / 16), hx (b.toNat % 16)]
def plF (b : UInt8) : List UInt8 := if b = 43 then [37, 50, 48] else [b]
theorem all_bytes {p : UInt8 → Prop} (h : ∀ n, n < 256 → p (UInt8.ofNat n)) (b : UInt8) : p b := by
  have := h b.toNat b.toNat_lt
  rwa [UInt8.ofNat_toNat] at this
theorem q_pl (b : UInt8) : (qF b).flatMap plF = uriF b := by
  revert b
  refine all_bytes (fun n hn => ?_)
  have : ∀ n : Fin 256, (qF (UInt8.ofNat n.1)).flatMap plF = uriF (UInt8.ofNat n.1) := by decide +kernel
  exact this ⟨n, hn⟩
theorem uri_all (l : List UInt8) : (l.flatMap qF).flatMap plF = l.flatMap uriF := by
  induction l with
  | nil => rfl
  | cons b l ih => rw [List.flatMap_cons, List.flatMap_append, ih, q_pl, List.flatMap_cons]
theorem uriF_len (b : UInt8) : (uriF b).length ≤ 3 := by unfold uriF; split <;> simp
theorem qF_len (b : UInt8) : (qF b).length ≤ 3 := by unfold qF; (repeat' split) <;> simp
theorem plF_len (b : UInt8) : (plF b).length ≤ 3 := by unfold plF; split <;> simp
/-- How many of the first k bytes are spaces; how many are written with three signs. -/
def spc (l : List UInt8) (k : Nat) : Nat := ((l.take k).filter (fun b => b == 32)).length
def hxc (l : List UInt8) (k : Nat) : Nat := ((l.take k).filter (fun b => !(b == 32) && !unr b.toNat)).length
theorem take_one (l : List UInt8) (k : Nat) (h : k < l.length) : l.take (k + 1) = l.take k ++ [l.getD k 0] := by
  rw [List.take_add_one, List.getElem?_eq_getElem h, List.getD_eq_getElem?_getD, List.getElem?_eq_getElem h]; rfl
theorem spc_step (l : List UInt8) (k : Nat) (h : k < l.length) : spc l (k + 1) = spc l k + if l.getD k 0 == 32 then 1 else 0 := by
  unfold spc
  rw [take_one l k h, List.filter_append, List.length_append]
  obtain ⟨x, hx⟩ : ∃ x, l.getD k 0 = x := ⟨_, rfl⟩
  rw [hx]
  cases hc : x == 32 <;> simp [List.filter, hc]
theorem hxc_step (l : List UInt8) (k : Nat) (h : k < l.length) : hxc l (k + 1) = hxc l k + if !(l.getD k 0 == 32) && !unr (l.getD k 0).toNat then 1 else 0 := by
  unfold hxc
  rw [take_one l k h, List.filter_append, List.length_append]
  obtain ⟨x, hx⟩ : ∃ x, l.getD k 0 = x := ⟨_, rfl⟩
  rw [hx]
  cases hc : (!(x == 32) && !unr x.toNat) <;> simp only [List.filter, hc] <;> rfl
theorem spc_le (l : List UInt8) (k : Nat) : spc l k ≤ k := by
  unfold spc
  exact Nat.le_trans (List.length_filter_le _ _) (by rw [List.length_take]; omega)
theorem hxc_le (l : List UInt8) (k : Nat) : hxc l k ≤ k := by
  unfold hxc
  exact Nat.le_trans (List.length_filter_le _ _) (by rw [List.length_take]; omega)
theorem q_length (l : List UInt8) : ∀ k, k ≤ l.length → ((l.take k).flatMap qF).length = k + 2 * hxc l k
  | 0, _ => by simp [hxc]
  | k + 1, h => by
    have ih := q_length l k (by omega)
    rw [take_one l k (by omega), List.flatMap_append, List.length_append, ih, hxc_step l k (by omega)]
    have e : ([l.getD k 0].flatMap qF) = qF (l.getD k 0) := by simp
    rw [e]
    unfold qF
    by_cases c : l.getD k 0 = 32
    · rw [if_pos c, c]; simp; omega
    · rw [if_neg c]
      have c2 : (l.getD k 0 == 32) = false := by simpa using c
      rw [c2]
      cases hu : unr (l.getD k 0).toNat <;> simp <;> omega
theorem all_filter {l : List UInt8} {f : UInt8 → Bool} (h : (l.filter f).length = 0) : ∀ b ∈ l, f b = false := fun b hb => by
  cases hf : f b with
  | false => rfl
  | true =>
    have := List.length_pos_of_mem (List.mem_filter.2 ⟨hb, hf⟩)
    omega
theorem q_id (l : List UInt8) (h1 : spc l l.length = 0) (h2 : hxc l l.length = 0) : l.flatMap qF = l := by
  unfold spc at h1
  unfold hxc at h2
  rw [List.take_length] at h1 h2
  have a1 := all_filter h1
  have a2 := all_filter h2
  clear h1 h2
  induction l with
  | nil => rfl
  | cons b l ih =>
    have e1 := a1 b (List.mem_cons_self ..)
    have e2 := a2 b (List.mem_cons_self ..)
    rw [List.flatMap_cons, ih (fun x hx => a1 x (List.mem_cons_of_mem _ hx)) (fun x hx => a2 x (List.mem_cons_of_mem _ hx))]
    have hb : b ≠ 32 := by simpa using e1
    have hu : unr b.toNat = true := by simpa [e1, hb] using e2
    unfold qF
    rw [if_neg hb, if_pos hu]
    rfl
theorem take_flat_le (f : UInt8 → List UInt8) (l : List UInt8) (k : Nat) : ((l.take k).flatMap f).length ≤ (l.flatMap f).length := by
  have e : l.flatMap f = (l.take k).flatMap f ++ (l.drop k).flatMap f := by rw [← List.flatMap_append, List.take_append_drop]
  rw [e, List.length_append]
  omega
def pF (b : UInt8) : UInt8 := if b = 32 then 43 else b
theorem q_map (l : List UInt8) (h2 : hxc l l.length = 0) : l.flatMap qF = l.map pF := by
  unfold hxc at h2
  rw [List.take_length] at h2
  have a2 := all_filter h2
  clear h2
  induction l with
  | nil => rfl
  | cons b l ih =>
    have e2 := a2 b (List.mem_cons_self ..)
    rw [List.flatMap_cons, ih (fun x hx => a2 x (List.mem_cons_of_mem _ hx)), List.map_cons]
    unfold qF pF
    by_cases hb : b = 32
    · rw [if_pos hb, if_pos hb]; rfl
    · have hu : unr b.toNat = true := by simpa [hb] using e2
      rw [if_neg hb, if_pos hu, if_neg hb]; rfl
def mix (l : List UInt8) (k : Nat) : List UInt8 := (l.take k).map pF ++ l.drop k
theorem mix_len (l : List UInt8) (k : Nat) : (mix l k).length = l.length := by
  simp [mix]
  omega
theorem mix_zero (l : List UInt8) : mix l 0 = l := rfl
theorem mix_end (l : List UInt8) : mix l l.length = l.map pF := by simp [mix]
theorem mix_step (l : List UInt8) (k : Nat) (h : k < l.length) : mix l (k + 1) = (mix l k).set k (pF (l.getD k 0)) := by
  unfold mix
  rw [take_one l k h, List.map_append, List.append_assoc]
  have hlen : ((l.take k).map pF).length = k := by simp; omega
  rw [List.set_append_right _ _ (by omega), hlen, Nat.sub_self]
  rw [List.getD_eq_getElem?_getD, List.getElem?_eq_getElem h]
  rw [show l.drop k = l[k] :: l.drop (k + 1) from List.drop_eq_getElem_cons h]
  rfl
theorem mix_same (l : List UInt8) (k : Nat) (h : k < l.length) (hc : l.getD k 0 ≠ 32) : mix l (k + 1) = mix l k := by
  unfold mix
  rw [take_one l k h, List.map_append, List.append_assoc, List.drop_eq_getElem_cons h]
  have : pF (l.getD k 0) = l.getD k 0 := by unfold pF; rw [if_neg hc]
  simp only [List.map_cons, List.map_nil, this, List.singleton_append]
  rw [List.getD_eq_getElem?_getD, List.getElem?_eq_getElem h]
  rfl
end Go.Uri
