/- PROVED: for every list of pairs within the law's bound the map built from them encodes alike on two calls, and alike when it is built from each key's last pair from the end backwards; a nil map and an empty one encode as an empty object. Conditions: none on the input but the bound that the law itself sets; the listed library tables read as the program text lays them (tied on the card); fmt's texts, which the walk never meets, are told. -/
import Derived.Test.YtngdcnljbfkneaaGreatFmtObjE
import Derived.Test.YtngdcnljbfkneaaGreatFmtClosed
import Derived.Test.YtngdcnljbfkneaaGreatFmtLayO
namespace Go.Proofs.YtngdcnljbfkneaaGreatFmt
open Go.ChangeShapes Go.WideShapes Go.ChangeAt Go.RowKit Go.WideMaps Go.WideElems
open Go.ChangeMaps (open_string)

set_option maxHeartbeats 4000000
set_option maxRecDepth 100000 in
/-- THE ROW's STEP. -/
theorem lifted_FnEncodeObjectOrderFree (os : Os) (started : os.Started) (H : Type) (enc : TypeId × Value → H) :
    ReturnsInTold none {} Tryz.checked os 3 .any Input.okWide ((OpenSpec.ofChange Rows.fnEncodeObjectOrderFreeSpec).preRow enc Tryz.prog Tryz.f3 [] false seatLaid)
      (fun F => ((OpenSpec.ofChange Rows.fnEncodeObjectOrderFreeSpec).at F).post enc Tryz.prog Tryz.f3 false true false false) (aloneAtReturn Tryz.prog) nothingAlways := by
  refine returnsInTold_of_row (C := Tryz.checked) (s := OpenSpec.ofChange Rows.fnEncodeObjectOrderFreeSpec) pf_mayEnter own started (by as_aux_lemma => kernel_rfl) Tryz.func3
    (wit_told (enc := enc) (C := Tryz.checked) false (seatWorld os) #[.slice none 0 0, .slice none 0 0] (seat_os os) (seat_shaped os _) (by as_aux_lemma => kernel_rfl)
      (OpenSpec.preRow_of_B (s := OpenSpec.ofChange Rows.fnEncodeObjectOrderFreeSpec) rfl 8 (by as_aux_lemma => kernel_rfl) (by as_aux_lemma => kernel_rfl) (seat_met os _))) ?_
  intro F W base args ds gs before _ _ hval0 hW _ _ hsz hL _
  have hval : ∀ (j : Nat) t v, Tryz.f3.params[j]? = some t → args[j]? = some v → Value.okWide Tryz.prog W .any base t v := hval0
  have hW' := hW
  obtain ⟨p, q, hA0, hV, hbefore, _, _⟩ := hW
  have hA : DataW.TrodAll enc Tryz.prog W 0 (fun _ => true) true Tryz.f3.params.toList args.toList ds p := hA0
  have hlt : ∀ x ∈ p, x.block < W.heap.size := fun x hx => hW'.lt x (by rw [hbefore]; exact List.mem_append_left _ hx)
  have hA1 := hA
  rw [Tryz.params3] at hA hval
  obtain ⟨v0, vs0, d0, ds0, p0, q0, hargs, rfl, hp0, h0, r0⟩ := trodAll_cons hA
  obtain ⟨v1, vs1, d1, ds1, p1, q1, rfl, rfl, hp1, h1, r1⟩ := trodAll_cons r0
  obtain ⟨rfl, rfl, _⟩ := trodAll_nil r1
  obtain rfl : args = #[v0, v1] := by cases args; simp_all
  have hltq0 := hlt
  obtain ⟨keys, hrkeys, wkeys⟩ := strs_arg (hval 0 22 v0 rfl rfl) h0 (fun x hx => hltq0 x (hp0 ▸ List.mem_append_left _ hx))
  have hltq1 : ∀ x ∈ q0, x.block < W.heap.size := fun x hx => hltq0 x (hp0 ▸ List.mem_append_right _ hx)
  obtain ⟨vals, hrvals, wvals⟩ := int_arg (hval 1 23 v1 rfl rfl) h1 (fun x hx => hltq1 x (hp1 ▸ List.mem_append_left _ hx))
  have hlen := trodVars_len hV
  obtain ⟨g1, g2, g3, g4, g5, rfl⟩ : ∃ g1 g2 g3 g4 g5, gs = [g1, g2, g3, g4, g5] := by
    match gs, hlen with
    | [g1, g2, g3, g4, g5], _ => exact ⟨g1, g2, g3, g4, g5, rfl⟩
  refine (walk_FnEncodeObjectOrderFree W v0 keys hrkeys wkeys v1 vals hrvals wvals (dr_of_laid hL) (tab_pow10 hL)).mono fun e W' ⟨he, hb⟩ => ?_
  subst he
  show ∃ v, _ = Ending.returned v ∧ Rows.fnEncodeObjectOrderFreeSpec.post enc Tryz.prog Tryz.f3 false true false false W _ v W'
  exact ⟨_, rfl, _, _, _, [], p, q, hW', trodAll_cons_mk (shut_bool Tryz.underlying4 _) trodAll_mk0, below_trodAll laidOut hb (by as_aux_lemma => kernel_rfl) hA1 hlt, hb.trodVars laidOut (by as_aux_lemma => kernel_rfl) hV, hbefore ▸ hb.frame _, fun h => by cases h⟩

set_option maxHeartbeats 4000000 in
/-- THE CARD. -/
theorem card_FnEncodeObjectOrderFree : Rows.FnEncodeObjectOrderFreeToldSaid :=
  Claim7.holds_of_told_tied_any_at .later 3 Tryz.f3 "fmt.Sprintf, its operands' methods called" [] [] _ _ _ _ _ (by as_aux_lemma => kernel_rfl) rfl rfl rfl laidOut pf_mapsRowed rfl ⟨rfl, rfl, rfl, rfl, rfl, rfl, rfl⟩ rfl rfl (by as_aux_lemma => kernel_rfl) (by as_aux_lemma => kernel_rfl) Tryz.func3 (by as_aux_lemma => kernel_rfl)
    (of_decide_eq_true (by as_aux_lemma => kernel_rfl)) (by as_aux_lemma => (unfold Func.isWrapper; first | (rw [if_pos (by decide +kernel)]; kernel_rfl) | (rw [if_neg (by decide +kernel)]; exact ⟨rfl, rfl⟩))) pf_stops.symm rfl pf_stopKnobs.symm pf_envWorded
    (by as_aux_lemma => kernel_rfl) (by as_aux_lemma => kernel_rfl) (by as_aux_lemma => kernel_rfl) (by as_aux_lemma => kernel_rfl) (by as_aux_lemma => kernel_rfl) (by as_aux_lemma => kernel_rfl) (by as_aux_lemma => kernel_rfl) (by as_aux_lemma => kernel_rfl) (by as_aux_lemma => kernel_rfl) rfl (by as_aux_lemma => kernel_rfl) rfl rfl
    rfl rfl
    rfl (by as_aux_lemma => kernel_rfl) pf_looks (by as_aux_lemma => kernel_rfl) (by decide) (by as_aux_lemma => kernel_rfl) fnEncodeObjectOrderFree_row_tie
    (OpenClaim.moreEntering_of pf_mayEnter (by as_aux_lemma => kernel_rfl) pf_stopsHeard (by as_aux_lemma => kernel_rfl) (by as_aux_lemma => kernel_rfl) (by as_aux_lemma => kernel_rfl) (by as_aux_lemma => kernel_rfl) pf_plainKeys pf_lifted pf_make)
    ⟨_, WideRow.started_initial, pf_quiet _⟩
    (fun os started _ H enc _ => lifted_FnEncodeObjectOrderFree os started H enc) (by exact ⟨(by as_aux_lemma => kernel_rfl), (by as_aux_lemma => kernel_rfl)⟩)
#print axioms card_FnEncodeObjectOrderFree
end Go.Proofs.YtngdcnljbfkneaaGreatFmt
