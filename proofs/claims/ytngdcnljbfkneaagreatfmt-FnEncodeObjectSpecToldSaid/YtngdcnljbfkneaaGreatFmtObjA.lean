/- The map made of pairs of a text and an int, as the walk holds it; the order of its entries; the closure that sort.Slice is handed; sort.Slice over the entries. -/
import Derived.Test.YtngdcnljbfkneaaGreatFmtEncQ
import Derived.Test.YtngdcnljbfkneaaGreatFmtObjP
import Derived.Maps.RangeWalk
import Derived.Maps.OwnSet
import Derived.Sort.KeysCollected
import Derived.Sort.Walk0
import Derived.Shelf.GgSortFunc.RowK
import Derived.BigQuiet
namespace Go.Proofs.YtngdcnljbfkneaaGreatFmt
open Go.RowKit Go.Deep Go.Lib Go.Sort Go.ObjP

theorem keyLaw : Go.Maps.Keyed Tryz.prog 9 := Go.Maps.string_keyed Tryz.underlying9
/-- How an element reads: an int in an interface value. -/
def rInt (v : Value) : Option (DataW Unit × List MemPlace) :=
  match v with
  | .iface t (.int .i64 a) => if t = 3 ∧ (Lit.int .i64 a).wf = true then some (.lit (.int .i64 a), []) else none
  | _ => none
theorem rInt_mk {a : Int} (hw : (Lit.int .i64 a).wf = true) : rInt (.iface 3 (.int .i64 a)) = some (.lit (.int .i64 a), []) := by
  simp [rInt, hw]
theorem rInt_inv {v : Value} {z : DataW Unit × List MemPlace} (h : rInt v = some z) : ∃ a, v = .iface 3 (.int .i64 a) ∧ z = (.lit (.int .i64 a), []) := by
  unfold rInt at h
  split at h
  · split at h
    · rename_i hc
      obtain ⟨rfl, _⟩ := hc
      cases h
      exact ⟨_, rfl, rfl⟩
    · cases h
  · cases h
/-- The datum D holds just what f tells. -/
structure Tells (D : DataW Unit) (f : Key → Option Int) : Prop where
  here : ∀ k v, f k = some v → ∀ zd, D.atKey (.string k) zd = .lit (.int .i64 v)
  gone : ∀ k, f k = none → ∀ zd, D.atKey (.string k) zd = zd
theorem tells_nil : Tells (.map []) (fun _ => none) := ⟨fun _ _ h => by simp at h, fun _ _ _ => rfl⟩
theorem Tells.has {D : DataW Unit} {f : Key → Option Int} (h : Tells D f) (k : Key) : Go.Maps.has D (.string k) = true ↔ f k ≠ none := by
  cases e : f k with
  | some v => simp [Go.Maps.has_true_of_atKey (h.here k v e)]
  | none => simp [Go.Maps.has_false_of_atKey (h.gone k e)]
theorem Tells.at {D : DataW Unit} {f : Key → Option Int} (h : Tells D f) {k : Key} {a : Int} (hat : ∀ zd, D.atKey (.string k) zd = .lit (.int .i64 a)) : f k = some a := by
  cases e : f k with
  | some v =>
    have := h.here k v e .nil
    rw [hat] at this
    injection this with this
    injection this with _ this
    rw [this]
  | none =>
    have := h.gone k e .nil
    rw [hat] at this
    cases this
theorem Tells.put {D : DataW Unit} {f : Key → Option Int} (h : Tells D f) (hm : Go.Maps.IsMap D) (k0 : Key) (v0 : Int) : Tells (D.put (.string k0) (.lit (.int .i64 v0))) (fun k => if k0 = k then some v0 else f k) := by
  refine ⟨fun k v hv zd => ?_, fun k hk zd => ?_⟩
  · replace hv : (if k0 = k then some v0 else f k) = some v := hv
    by_cases c : k0 = k
    · subst c
      rw [if_pos rfl] at hv
      injection hv with hv
      subst hv
      exact Go.Maps.atKey_put_same hm (show WideAt.IsKeyLit (.string k0) from trivial) _ _
    · rw [if_neg c] at hv
      rw [Go.Maps.atKey_put_other (fun e => c (by injection e with e; exact e.symm))]
      exact h.here k v hv zd
  · replace hk : (if k0 = k then some v0 else f k) = none := hk
    by_cases c : k0 = k
    · subst c
      rw [if_pos rfl] at hk
      cases hk
    · rw [if_neg c] at hk
      rw [Go.Maps.atKey_put_other (fun e => c (by injection e with e; exact e.symm))]
      exact h.gone k hk zd
/-- Block b is a map of at most n entries that holds what f tells. -/
def MapIs (w : World) (b n : Nat) (f : Key → Option Int) : Prop := ∃ D : DataW Unit, w.ownsMap Tryz.prog 9 rInt b n D ∧ Tells D f
theorem ownsMap_kept {w w' : World} {b n : Nat} {D : DataW Unit} (h : w.ownsMap Tryz.prog 9 rInt b n D) (hb : w'.heap[b]? = w.heap[b]?) : w'.ownsMap Tryz.prog 9 rInt b n D := by
  obtain ⟨es, clock, hb0, r⟩ := h
  exact ⟨es, clock, hb.trans hb0, r⟩
theorem MapIs.lt {w : World} {b n : Nat} {f : Key → Option Int} (h : MapIs w b n f) : b < w.heap.size := by
  obtain ⟨D, h1, _⟩ := h
  exact h1.lt
theorem MapIs.kept {w w' : World} {b n : Nat} {f : Key → Option Int} (h : MapIs w b n f) (hb : w'.heap[b]? = w.heap[b]?) : MapIs w' b n f := by
  obtain ⟨D, h1, h2⟩ := h
  exact ⟨D, ownsMap_kept h1 hb, h2⟩
theorem mapIs_made (w : World) (kz : Nat → Key) (vz : Nat → Int) : MapIs (w.alloc (.map #[] 0)) w.heap.size 0 (lastv kz vz 0) := ⟨.map [], World.ownsMap_made w _ _ _, tells_nil⟩
theorem mapIs_put {w : World} {b n : Nat} {D : DataW Unit} {kz : Nat → Key} {vz : Nat → Int} {w0 : World} {D0 : DataW Unit} {k : Nat} (h0 : w0.ownsMap Tryz.prog 9 rInt b k D0) (ht : Tells D0 (lastv kz vz k))
    (hD : D = D0.put (.string (kz k)) (.lit (.int .i64 (vz k)))) (h : w.ownsMap Tryz.prog 9 rInt b n D) : MapIs w b n (lastv kz vz (k + 1)) := by
  subst hD
  exact ⟨_, h, ht.put h0.isMap (kz k) (vz k)⟩

/-! ### the entries' row -/
abbrev KV := Key × Int
def encK (p : KV) : List Value := [encStr p.1, .iface 3 (.int .i64 p.2)]
def ltKey (p q : KV) : Bool := ltStr p.1 q.1
theorem swo_ltKey : SWO ltKey where
  irrefl p := swo_ltStr.irrefl p.1
  trans p q r h1 h2 := swo_ltStr.trans p.1 q.1 r.1 h1 h2
  ntrans p q r h1 h2 := swo_ltStr.ntrans p.1 q.1 r.1 h1 h2
set_option maxHeartbeats 2000000 in
/-- The closure. -/
theorem lessK (blk off c Bs size : Nat) (W : World) (G : Nat → Key) (hs : W.cell? ⟨Bs, 0, none⟩ = some (.slice (some ⟨blk, off, none⟩) size c))
    (hc : ∀ t, t < size → W.cell? ⟨blk, off + t * 2, none⟩ = some (encStr (G t))) (i j : Nat) (hi : i < size) (hj : j < size) (_hsz : size < 4611686018427387904) :
    Calls Tryz.prog 21 #[.int .i64 i, .int .i64 j, .pointer (some ⟨Bs, 0, none⟩)] W fun e w' => e = .returned (.bool (ltStr (G i) (G j))) ∧ ∃ q, w' = W.drewN q := by
  have ci := hc i hi
  have cj := hc j hj
  go_enter Tryz.func21, Tryz.ntmps21
  go_wp2
  go_quiet (fail)
  go_wp2
  go_ret
  exact ⟨by rw [bytesLess_eq]; rfl, nq, rfl⟩

/-! ### the row of entries -/
/-- What the entries' row holds when the keys ss have come: key, value, key, value, ..; behind them zero values. -/
def kvF (f : Key → Option Int) (ss : List Key) : Nat → Value := fun j =>
  if j / 2 < ss.length then (if j % 2 = 0 then encStr (ss.getD (j / 2) []) else .iface 3 (.int .i64 ((f (ss.getD (j / 2) [])).getD 0)))
  else (if j % 2 = 0 then .string ByteArray.empty else .nilIface)
theorem kvF_start {w : World} {R : Nat} {T : TypeId} {m : Nat} (f : Key → Option Int) (h : w.rowIs R T (m * 2) (fun j => (#[.string ByteArray.empty, .nilIface] : Array Value)[j % 2]!)) : w.rowIs R T (m * 2) (kvF f []) := by
  refine h.congr fun j _ => ?_
  unfold kvF
  rw [if_neg (by simp)]
  rcases Nat.mod_two_eq_zero_or_one j with e | e <;> rw [e] <;> rfl
theorem kvF_step {w : World} {R : Nat} {T : TypeId} {m : Nat} {f : Key → Option Int} {ss : List Key} (h : w.rowIs R T (m * 2) (kvF f ss)) {x : Key} {c : Int} (hx : f x = some c) :
    ((w.setCell ⟨R, ss.length * 2, none⟩ (encStr x)).setCell ⟨R, ss.length * 2 + 1, none⟩ (.iface 3 (.int .i64 c))).rowIs R T (m * 2) (kvF f (ss ++ [x])) := by
  refine ((h.set _ _).set _ _).congr fun j _ => ?_
  have e1 : ∀ i, i < ss.length → (ss ++ [x]).getD i [] = ss.getD i [] := fun i hi => by rw [List.getD_eq_getElem?_getD, List.getElem?_append_left hi, ← List.getD_eq_getElem?_getD]
  have e2 : (ss ++ [x]).getD ss.length [] = x := by rw [List.getD_eq_getElem?_getD, List.getElem?_append_right (Nat.le_refl _), Nat.sub_self]; rfl
  have hl : (ss ++ [x]).length = ss.length + 1 := by simp
  by_cases c1 : j = ss.length * 2 + 1
  · rw [if_pos c1]
    unfold kvF
    rw [hl, if_pos (by omega), if_neg (by omega), show j / 2 = ss.length from by omega, e2, hx]
    rfl
  · rw [if_neg c1]
    by_cases c2 : j = ss.length * 2
    · rw [if_pos c2]
      unfold kvF
      rw [hl, if_pos (by omega), if_pos (by omega), show j / 2 = ss.length from by omega, e2]
    · rw [if_neg c2]
      unfold kvF
      rw [hl]
      by_cases c3 : j / 2 < ss.length
      · simp only [if_pos c3, if_pos (show j / 2 < ss.length + 1 by omega), e1 _ c3]
      · simp only [if_neg c3, if_neg (show ¬ j / 2 < ss.length + 1 by omega)]
/-- The entries that the keys ss make. -/
def ents (f : Key → Option Int) (ss : List Key) : Array KV := (ss.map fun k => (k, (f k).getD 0)).toArray
theorem holdsK_row {w : World} {R : Nat} {T : TypeId} {m : Nat} {f : Key → Option Int} {ss : List Key} (h : w.rowIs R T (m * 2) (kvF f ss)) (hm : ss.length = m) : HoldsK encK 2 w R 0 (ents f ss) := by
  intro j hj
  have hsz : (ents f ss).size = m := by unfold ents; simp [hm]
  rw [size_flatK, hsz] at hj
  rw [get_flatK _ _ _ _ (by rw [hsz]; exact hj), Nat.zero_add]
  refine ⟨?_, h.frozen j⟩
  rw [h.cell hj]
  congr 1
  have hd : j / 2 < ss.length := by omega
  have he : (ents f ss)[j / 2]! = (ss.getD (j / 2) [], (f (ss.getD (j / 2) [])).getD 0) := by
    unfold ents
    rw [List.getD_eq_getElem?_getD, List.getElem?_eq_getElem hd]
    simp [hd]
  rw [he]
  unfold kvF
  rw [if_pos hd]
  rcases Nat.mod_two_eq_zero_or_one j with e | e <;> rw [e] <;> rfl
theorem only_sorted (w : World) (g n : Nat) (d : Array KV) (os : Array Obj) : Only g w (grow (putRowK encK 2 (Sort.ahead w n) g 0 d) os) := by
  have hsz : (putRowK encK 2 (Sort.ahead w n) g 0 d).heap.size = w.heap.size := by simp [putRowK, putRow, mapBlock, Sort.ahead]
  refine ⟨rfl, rfl, rfl, by rw [Go.Sort.size_grow, hsz]; omega, fun k hk hne => ?_⟩
  rw [heap_grow_old _ _ (by rw [hsz]; exact hk)]
  have hgk : g ≠ k := fun e => hne e.symm
  simp [putRowK, putRow, mapBlock, Sort.ahead, Array.getElem?_modify, hgk]
theorem only_grow (w : World) (g : Nat) (os : Array Obj) : Only g w (grow w os) := ⟨rfl, rfl, rfl, by rw [Go.Sort.size_grow]; omega, fun k hk _ => heap_grow_old _ _ hk⟩
end Go.Proofs.YtngdcnljbfkneaaGreatFmt
