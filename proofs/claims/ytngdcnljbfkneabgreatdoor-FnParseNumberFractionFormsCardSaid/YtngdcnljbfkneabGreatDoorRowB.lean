/- PROVED: parseNumber at the fraction forms of an int. Conditions: none on the input but the bound that the law itself sets; the listed library tables read as the program text lays them (tied on the card). -/
import Derived.Test.YtngdcnljbfkneabGreatDoorPnL
import Derived.Test.YtngdcnljbfkneabGreatDoorClosed
import Derived.Test.YtngdcnljbfkneabGreatDoorLayX
namespace Go.Proofs.YtngdcnljbfkneabGreatDoor
open Go.ChangeShapes Go.WideShapes Go.ChangeAt Go.RowKit Go.WideMaps Go.WideElems
open Go.ChangeMaps (open_string)

set_option maxHeartbeats 4000000
set_option maxRecDepth 100000 in
/-- THE ROW's STEP. -/
theorem lifted_FnParseNumberFractionForms (os : Os) (started : os.Started) (H : Type) (enc : TypeId × Value → H) :
    ReturnsInHanded {} Tryz.checked os 3 .any (fun w args => (Rows.fnParseNumberFractionFormsSpec.pre enc Tryz.prog Tryz.f3 [] false w args ∧ laidMetH Tryz.prog seatLaid w) ∧ sizedMet enc Tryz.prog Tryz.f3 (OpenSpec.ofChange Rows.fnParseNumberFractionFormsSpec) false w args)
      (Rows.fnParseNumberFractionFormsSpec.post enc Tryz.prog Tryz.f3 false true false false) := by
  refine returnsInHanded_of_change_and (C := Tryz.checked) (X := fun w _ => laidMetH Tryz.prog seatLaid w) (fun _ _ _ hh h => h.of_heap hh) own started (by as_aux_lemma => kernel_rfl) Tryz.func3
    (ChangeSpec.witness_shaped (enc := enc) (C := Tryz.checked) (os := os) (X := fun w _ => laidMetH Tryz.prog seatLaid w) false (seatWorld os) #[.int .i64 0, .int .u8 0] 8 (seat_os os) (seat_shaped os _) (by as_aux_lemma => kernel_rfl) (by as_aux_lemma => kernel_rfl) (by as_aux_lemma => kernel_rfl) (seat_met os _)) ?_
  intro W base args ds gs before hval0 hW _ hsz hL _
  have hval : ∀ (j : Nat) t v, Tryz.f3.params[j]? = some t → args[j]? = some v → Value.okWide Tryz.prog W .any base t v := hval0
  have hW' := hW
  obtain ⟨p, q, hA0, hV, hbefore, _, _⟩ := hW
  have hA : DataW.TrodAll enc Tryz.prog W 0 (fun _ => true) true Tryz.f3.params.toList args.toList ds p := hA0
  have hlt : ∀ x ∈ p, x.block < W.heap.size := fun x hx => hW'.lt x (by rw [hbefore]; exact List.mem_append_left _ hx)
  have hA1 := hA
  rw [Tryz.params3] at hA hval
  obtain ⟨v0, vs0, d0, ds0, p0, q0, hargs, rfl, hp0, h0, r0⟩ := trodAll_cons hA
  obtain ⟨v1, vs1, d1, ds1, p1, q1, rfl, rfl, hp1, h1, r1⟩ := trodAll_cons r0
  obtain ⟨rfl, rfl, _⟩ := trodAll_nil r1
  obtain rfl : args = #[v0, v1] := by cases args; simp_all
  obtain ⟨n, rfl, rfl, _, wn⟩ := open_int Tryz.underlying2 (hval 0 2 v0 rfl rfl) h0
  obtain ⟨k, rfl, rfl, _, wk⟩ := open_int Tryz.underlying5 (hval 1 5 v1 rfl rfl) h1
  have hlen := trodVars_len hV
  obtain ⟨g1, g2, g3, g4, g5, g6, g7, rfl⟩ : ∃ g1 g2 g3 g4 g5 g6 g7, gs = [g1, g2, g3, g4, g5, g6, g7] := by
    match gs, hlen with
    | [g1, g2, g3, g4, g5, g6, g7], _ => exact ⟨g1, g2, g3, g4, g5, g6, g7, rfl⟩
  refine (walk_FnParseNumberFractionForms n wn k wk W (facts_of_laid_x hL)).mono fun e W' ⟨he, hb⟩ => ?_
  subst he
  exact ⟨_, rfl, _, _, _, [], p, q, hW', trodAll_cons_mk (shut_bool Tryz.underlying4 _) trodAll_mk0, below_trodAll laidOut hb (by as_aux_lemma => kernel_rfl) hA1 hlt, hb.trodVars laidOut (by as_aux_lemma => kernel_rfl) hV, hbefore ▸ hb.frame _, fun h => by cases h⟩

set_option maxHeartbeats 4000000 in
theorem closed_FnParseNumberFractionForms : joinedFacts Tryz.prog 3 Tryz.f3 Rows.fnParseNumberFractionFormsSpec Rows.fnParseNumberFractionFormsRow = true := by
  unfold joinedFacts
  repeat' (with_reducible refine band ?_ ?_)
  · as_aux_lemma => kernel_rfl
  · exact laidOut
  · exact pf_mapsRowed
  · as_aux_lemma => kernel_rfl
  · as_aux_lemma => kernel_rfl
  · as_aux_lemma => kernel_rfl
  · exact pf_stops
  · as_aux_lemma => kernel_rfl
  · exact pf_stopKnobs
  · as_aux_lemma => kernel_rfl
  · as_aux_lemma => kernel_rfl
  · as_aux_lemma => kernel_rfl
  · as_aux_lemma => kernel_rfl
  · as_aux_lemma => kernel_rfl
  · as_aux_lemma => kernel_rfl
  · as_aux_lemma => kernel_rfl
  · as_aux_lemma => kernel_rfl
  · as_aux_lemma => kernel_rfl
  · as_aux_lemma => kernel_rfl
  · as_aux_lemma => kernel_rfl
  · as_aux_lemma => kernel_rfl
  · as_aux_lemma => kernel_rfl
  · exact pf_plainKeys
  · as_aux_lemma => kernel_rfl
  · exact pf_stopsHeard
  · exact pf_mayEnter
  · exact pf_lifted
  · exact pf_make
  · as_aux_lemma => kernel_rfl
  · as_aux_lemma => kernel_rfl
  · as_aux_lemma => kernel_rfl
  · as_aux_lemma => kernel_rfl
theorem said_FnParseNumberFractionForms : Rows.FnParseNumberFractionFormsSaid :=
  OpenClaim.holds_of_wide 3 Tryz.f3 rfl rfl rfl rfl rfl rfl rfl ⟨rfl, rfl, rfl, rfl, rfl⟩ rfl rfl rfl rfl rfl (by as_aux_lemma => kernel_rfl) Tryz.func3 closed_FnParseNumberFractionForms
    (of_decide_eq_true (by as_aux_lemma => kernel_rfl)) (by as_aux_lemma => (unfold Func.isWrapper; first | (rw [if_pos (by decide +kernel)]; kernel_rfl) | (rw [if_neg (by decide +kernel)]; exact ⟨rfl, rfl⟩)))
    (fun os started H enc _ => lifted_FnParseNumberFractionForms os started H enc)

theorem plain_FnParseNumberFractionForms (f : FuncId) (fn : Func) (hf : Tryz.pinned.checked.prog.funcNamed "github.com/itchyny/gojq/n001_34.FnParseNumberFractionForms" = some f) (hfn : Tryz.pinned.checked.prog.funcs[f]? = some fn) :
    true = Tryz.pinned.checked.prog.looks [] ∧ ∀ (j : Nat) t, fn.params[j]? = some t → Tryz.pinned.checked.prog.wantsStandIn t = false := by
  obtain rfl : f = 3 := Option.some.inj ((show Tryz.prog.funcNamed "github.com/itchyny/gojq/n001_34.FnParseNumberFractionForms" = some 3 by as_aux_lemma => kernel_rfl).symm.trans hf) |>.symm
  obtain rfl : fn = Tryz.f3 := (Option.some.inj (Tryz.func3.symm.trans hfn)).symm
  refine ⟨pf_looks, fun j t ht => ?_⟩
  rw [Tryz.params3] at ht
  have hm : t ∈ [2, 5] := by simpa using Array.mem_of_getElem? ht
  have hall : ([2, 5].all fun u => !Tryz.prog.wantsStandIn u) = true := by as_aux_lemma => kernel_rfl
  exact (show Tryz.prog.wantsStandIn t = false by simpa using List.all_eq_true.1 hall t hm)

/-- THE CARD. -/
theorem card_FnParseNumberFractionForms : Rows.FnParseNumberFractionFormsCardSaid :=
  Claim7.holds_tied_plain_at .later [] _ _ _ _ said_FnParseNumberFractionForms (fun _ h => by cases h) (by as_aux_lemma => kernel_rfl) (fun _ h => by cases h) fnParseNumberFractionForms_row_tie rfl ⟨rfl, rfl⟩ (by as_aux_lemma => kernel_rfl) rfl plain_FnParseNumberFractionForms (by as_aux_lemma => kernel_rfl)
#print axioms card_FnParseNumberFractionForms
end Go.Proofs.YtngdcnljbfkneabGreatDoor
