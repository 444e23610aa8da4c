/- PROVED: on any array of ints bsearch answers an int from -len-1 to below len, and an answer that is not negative is the place of an element equal to t. Conditions: none on the input but the bound that the law itself sets; the listed library tables read as the program text lays them (tied on the card). -/
import Derived.Test.YtclopknkophfkaaGreatDoorBs
import Derived.Test.YtclopknkophfkaaGreatDoorClosed
import Derived.Test.YtclopknkophfkaaGreatDoorFrame2
namespace Go.Proofs.YtclopknkophfkaaGreatDoor
open Go.ChangeShapes Go.WideShapes Go.ChangeAt Go.RowKit Go.WideMaps Go.WideElems
open Go.ChangeMaps (open_string)

set_option maxHeartbeats 4000000
set_option maxRecDepth 100000 in
/-- THE ROW's STEP. -/
theorem lifted_FnBsearchAnswerBounded (os : Os) (started : os.Started) (H : Type) (enc : TypeId × Value → H) :
    ReturnsInHanded {} Tryz.checked os 6 .any (fun w args => (Rows.fnBsearchAnswerBoundedSpec.pre enc Tryz.prog Tryz.f6 [] false w args ∧ laidMetH Tryz.prog seatLaid2 w) ∧ sizedMet enc Tryz.prog Tryz.f6 (OpenSpec.ofChange Rows.fnBsearchAnswerBoundedSpec) false w args)
      (Rows.fnBsearchAnswerBoundedSpec.post enc Tryz.prog Tryz.f6 false true false false) := by
  refine returnsInHanded_of_change_and (C := Tryz.checked) (X := fun w _ => laidMetH Tryz.prog seatLaid2 w) (fun _ _ _ hh h => h.of_heap hh) own started (by as_aux_lemma => kernel_rfl) Tryz.func6
    (ChangeSpec.witness_shaped (enc := enc) (C := Tryz.checked) (os := os) (X := fun w _ => laidMetH Tryz.prog seatLaid2 w) false (seatWorld2 os) #[.slice none 0 0, .int .i64 0] 8 (seat_os2 os) (seat_shaped2 os _) (by as_aux_lemma => kernel_rfl) (by as_aux_lemma => kernel_rfl) (by as_aux_lemma => kernel_rfl) (seat_met2 os _)) ?_
  intro W base args ds gs before hval0 hW _ hsz hL _
  have hval : ∀ (j : Nat) t v, Tryz.f6.params[j]? = some t → args[j]? = some v → Value.okWide Tryz.prog W .any base t v := hval0
  have hW' := hW
  obtain ⟨p, q, hA0, hV, hbefore, _, _⟩ := hW
  have hA : DataW.TrodAll enc Tryz.prog W 0 (fun _ => true) true Tryz.f6.params.toList args.toList ds p := hA0
  have hlt : ∀ x ∈ p, x.block < W.heap.size := fun x hx => hW'.lt x (by rw [hbefore]; exact List.mem_append_left _ hx)
  have hA1 := hA
  rw [Tryz.params6] at hA hval
  obtain ⟨v0, vs0, d0, ds0, p0, q0, hargs, rfl, hp0, h0, r0⟩ := trodAll_cons hA
  obtain ⟨v1, vs1, d1, ds1, p1, q1, rfl, rfl, hp1, h1, r1⟩ := trodAll_cons r0
  obtain ⟨rfl, rfl, _⟩ := trodAll_nil r1
  obtain rfl : args = #[v0, v1] := by cases args; simp_all
  have hltq0 := hlt
  obtain ⟨xs, hrxs, wxs⟩ := int_arg (hval 0 32 v0 rfl rfl) h0 (fun x hx => hltq0 x (hp0 ▸ List.mem_append_left _ hx))
  obtain ⟨t, rfl, rfl, _, wt⟩ := open_int Tryz.underlying3 (hval 1 3 v1 rfl rfl) h1
  have hlen := trodVars_len hV
  obtain ⟨g1, g2, g3, g4, g5, g6, g7, rfl⟩ : ∃ g1 g2 g3 g4 g5 g6 g7, gs = [g1, g2, g3, g4, g5, g6, g7] := by
    match gs, hlen with
    | [g1, g2, g3, g4, g5, g6, g7], _ => exact ⟨g1, g2, g3, g4, g5, g6, g7, rfl⟩
  refine (walk_FnBsearchAnswerBounded W v0 xs hrxs wxs t wt).mono fun e W' ⟨he, hb⟩ => ?_
  subst he
  exact ⟨_, rfl, _, _, _, [], p, q, hW', trodAll_cons_mk (shut_bool Tryz.underlying4 _) trodAll_mk0, below_trodAll laidOut hb (by as_aux_lemma => kernel_rfl) hA1 hlt, hb.trodVars laidOut (by as_aux_lemma => kernel_rfl) hV, hbefore ▸ hb.frame _, fun h => by cases h⟩

set_option maxHeartbeats 4000000 in
theorem closed_FnBsearchAnswerBounded : joinedFacts Tryz.prog 6 Tryz.f6 Rows.fnBsearchAnswerBoundedSpec Rows.fnBsearchAnswerBoundedRow = true := by
  unfold joinedFacts
  repeat' (with_reducible refine band ?_ ?_)
  · as_aux_lemma => kernel_rfl
  · exact laidOut
  · exact pf_mapsRowed
  · as_aux_lemma => kernel_rfl
  · as_aux_lemma => kernel_rfl
  · as_aux_lemma => kernel_rfl
  · exact pf_stops
  · as_aux_lemma => kernel_rfl
  · exact pf_stopKnobs
  · as_aux_lemma => kernel_rfl
  · as_aux_lemma => kernel_rfl
  · as_aux_lemma => kernel_rfl
  · as_aux_lemma => kernel_rfl
  · as_aux_lemma => kernel_rfl
  · as_aux_lemma => kernel_rfl
  · as_aux_lemma => kernel_rfl
  · as_aux_lemma => kernel_rfl
  · as_aux_lemma => kernel_rfl
  · as_aux_lemma => kernel_rfl
  · as_aux_lemma => kernel_rfl
  · as_aux_lemma => kernel_rfl
  · as_aux_lemma => kernel_rfl
  · exact pf_plainKeys
  · as_aux_lemma => kernel_rfl
  · exact pf_stopsHeard
  · exact pf_mayEnter
  · exact pf_lifted
  · exact pf_make
  · as_aux_lemma => kernel_rfl
  · as_aux_lemma => kernel_rfl
  · as_aux_lemma => kernel_rfl
  · as_aux_lemma => kernel_rfl
theorem said_FnBsearchAnswerBounded : Rows.FnBsearchAnswerBoundedSaid :=
  OpenClaim.holds_of_wide 6 Tryz.f6 rfl rfl rfl rfl rfl rfl rfl ⟨rfl, rfl, rfl, rfl, rfl⟩ rfl rfl rfl rfl rfl (by as_aux_lemma => kernel_rfl) Tryz.func6 closed_FnBsearchAnswerBounded
    (of_decide_eq_true (by as_aux_lemma => kernel_rfl)) (by as_aux_lemma => (unfold Func.isWrapper; first | (rw [if_pos (by decide +kernel)]; kernel_rfl) | (rw [if_neg (by decide +kernel)]; exact ⟨rfl, rfl⟩)))
    (fun os started H enc _ => lifted_FnBsearchAnswerBounded os started H enc)

theorem plain_FnBsearchAnswerBounded (f : FuncId) (fn : Func) (hf : Tryz.pinned.checked.prog.funcNamed "github.com/itchyny/gojq/n001_42.FnBsearchAnswerBounded" = some f) (hfn : Tryz.pinned.checked.prog.funcs[f]? = some fn) :
    true = Tryz.pinned.checked.prog.looks [] ∧ ∀ (j : Nat) t, fn.params[j]? = some t → Tryz.pinned.checked.prog.wantsStandIn t = false := by
  obtain rfl : f = 6 := Option.some.inj ((show Tryz.prog.funcNamed "github.com/itchyny/gojq/n001_42.FnBsearchAnswerBounded" = some 6 by as_aux_lemma => kernel_rfl).symm.trans hf) |>.symm
  obtain rfl : fn = Tryz.f6 := (Option.some.inj (Tryz.func6.symm.trans hfn)).symm
  refine ⟨pf_looks, fun j t ht => ?_⟩
  rw [Tryz.params6] at ht
  have hm : t ∈ [32, 3] := by simpa using Array.mem_of_getElem? ht
  have hall : ([32, 3].all fun u => !Tryz.prog.wantsStandIn u) = true := by as_aux_lemma => kernel_rfl
  exact (show Tryz.prog.wantsStandIn t = false by simpa using List.all_eq_true.1 hall t hm)

/-- THE CARD. -/
theorem card_FnBsearchAnswerBounded : Rows.FnBsearchAnswerBoundedCardSaid :=
  Claim7.holds_tied_plain_at .later [] _ _ _ _ said_FnBsearchAnswerBounded (fun _ h => by cases h) (by as_aux_lemma => kernel_rfl) (fun _ h => by cases h) fnBsearchAnswerBounded_row_tie rfl ⟨rfl, rfl⟩ (by as_aux_lemma => kernel_rfl) rfl plain_FnBsearchAnswerBounded (by as_aux_lemma => kernel_rfl)
#print axioms card_FnBsearchAnswerBounded
end Go.Proofs.YtclopknkophfkaaGreatDoor
