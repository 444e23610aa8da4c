/- PROVED: mathFunc3 ignores its input and answers (a-b)/c of its three numbers, or the type error of the first that is none. Conditions: none on the input but the bounds that the law itself sets; the listed library tables read as the program text lays them (tied on the card). -/
import Derived.Test.YtipinccflmmepaaGreatDoorMwL3
import Derived.Test.YtipinccflmmepaaGreatDoorClosed
import Derived.Test.YtipinccflmmepaaGreatDoorLayP
namespace Go.Proofs.YtipinccflmmepaaGreatDoor
open Go.ChangeShapes Go.WideShapes Go.ChangeAt Go.RowKit Go.WideMaps Go.WideElems
open Go.ChangeMaps (open_string)

set_option maxHeartbeats 4000000
set_option maxRecDepth 100000 in
/-- THE ROW's STEP. -/
theorem lifted_FnMathFunc3Whole (os : Os) (started : os.Started) (H : Type) (enc : TypeId × Value → H) :
    ReturnsInHanded {} Tryz.checked os 5 .any (fun w args => (Rows.fnMathFunc3WholeSpec.pre enc Tryz.prog Tryz.f5 [] false w args ∧ laidMetH Tryz.prog seatLaid w) ∧ sizedMet enc Tryz.prog Tryz.f5 (OpenSpec.ofChange Rows.fnMathFunc3WholeSpec) false w args)
      (Rows.fnMathFunc3WholeSpec.post enc Tryz.prog Tryz.f5 false true false false) := by
  refine returnsInHanded_of_change_and (C := Tryz.checked) (X := fun w _ => laidMetH Tryz.prog seatLaid w) (fun _ _ _ hh h => h.of_heap hh) own started (by as_aux_lemma => kernel_rfl) Tryz.func5
    (ChangeSpec.witness_shaped (enc := enc) (C := Tryz.checked) (os := os) (X := fun w _ => laidMetH Tryz.prog seatLaid w) false (seatWorld os) #[.string ByteArray.empty, .string ByteArray.empty, .int .u8 0, .int .u8 0, .float .f64 0, .int .i64 0, .int .u8 0, .float .f64 0, .int .i64 0, .int .u8 0, .float .f64 0, .int .i64 0] 8 (seat_os os) (seat_shaped os _) (by as_aux_lemma => kernel_rfl) (by as_aux_lemma => kernel_rfl) (by as_aux_lemma => kernel_rfl) (seat_met os _)) ?_
  intro W base args ds gs before hval0 hW _ hsz hL _
  have hval : ∀ (j : Nat) t v, Tryz.f5.params[j]? = some t → args[j]? = some v → Value.okWide Tryz.prog W .any base t v := hval0
  have hW' := hW
  obtain ⟨p, q, hA0, hV, hbefore, _, _⟩ := hW
  have hA : DataW.TrodAll enc Tryz.prog W 0 (fun _ => true) true Tryz.f5.params.toList args.toList ds p := hA0
  have hlt : ∀ x ∈ p, x.block < W.heap.size := fun x hx => hW'.lt x (by rw [hbefore]; exact List.mem_append_left _ hx)
  have hA1 := hA
  rw [Tryz.params5] at hA hval
  obtain ⟨v0, vs0, d0, ds0, p0, q0, hargs, rfl, hp0, h0, r0⟩ := trodAll_cons hA
  obtain ⟨v1, vs1, d1, ds1, p1, q1, rfl, rfl, hp1, h1, r1⟩ := trodAll_cons r0
  obtain ⟨v2, vs2, d2, ds2, p2, q2, rfl, rfl, hp2, h2, r2⟩ := trodAll_cons r1
  obtain ⟨v3, vs3, d3, ds3, p3, q3, rfl, rfl, hp3, h3, r3⟩ := trodAll_cons r2
  obtain ⟨v4, vs4, d4, ds4, p4, q4, rfl, rfl, hp4, h4, r4⟩ := trodAll_cons r3
  obtain ⟨v5, vs5, d5, ds5, p5, q5, rfl, rfl, hp5, h5, r5⟩ := trodAll_cons r4
  obtain ⟨v6, vs6, d6, ds6, p6, q6, rfl, rfl, hp6, h6, r6⟩ := trodAll_cons r5
  obtain ⟨v7, vs7, d7, ds7, p7, q7, rfl, rfl, hp7, h7, r7⟩ := trodAll_cons r6
  obtain ⟨v8, vs8, d8, ds8, p8, q8, rfl, rfl, hp8, h8, r8⟩ := trodAll_cons r7
  obtain ⟨v9, vs9, d9, ds9, p9, q9, rfl, rfl, hp9, h9, r9⟩ := trodAll_cons r8
  obtain ⟨v10, vs10, d10, ds10, p10, q10, rfl, rfl, hp10, h10, r10⟩ := trodAll_cons r9
  obtain ⟨v11, vs11, d11, ds11, p11, q11, rfl, rfl, hp11, h11, r11⟩ := trodAll_cons r10
  obtain ⟨rfl, rfl, _⟩ := trodAll_nil r11
  obtain rfl : args = #[v0, v1, v2, v3, v4, v5, v6, v7, v8, v9, v10, v11] := by cases args; simp_all
  obtain ⟨name, rfl, rfl, _, wname⟩ := open_string Tryz.underlying9 (hval 0 9 v0 rfl rfl) h0
  obtain ⟨t, rfl, rfl, _, wt⟩ := open_string Tryz.underlying9 (hval 1 9 v1 rfl rfl) h1
  obtain ⟨kv, rfl, rfl, _, wkv⟩ := open_int Tryz.underlying5 (hval 2 5 v2 rfl rfl) h2
  obtain ⟨ka, rfl, rfl, _, wka⟩ := open_int Tryz.underlying5 (hval 3 5 v3 rfl rfl) h3
  obtain ⟨xa, rfl, rfl, _, wxa⟩ := open_float Tryz.underlying22 (hval 4 22 v4 rfl rfl) h4
  obtain ⟨na, rfl, rfl, _, wna⟩ := open_int Tryz.underlying3 (hval 5 3 v5 rfl rfl) h5
  obtain ⟨kb, rfl, rfl, _, wkb⟩ := open_int Tryz.underlying5 (hval 6 5 v6 rfl rfl) h6
  obtain ⟨xb, rfl, rfl, _, wxb⟩ := open_float Tryz.underlying22 (hval 7 22 v7 rfl rfl) h7
  obtain ⟨nb, rfl, rfl, _, wnb⟩ := open_int Tryz.underlying3 (hval 8 3 v8 rfl rfl) h8
  obtain ⟨kc, rfl, rfl, _, wkc⟩ := open_int Tryz.underlying5 (hval 9 5 v9 rfl rfl) h9
  obtain ⟨xc, rfl, rfl, _, wxc⟩ := open_float Tryz.underlying22 (hval 10 22 v10 rfl rfl) h10
  obtain ⟨nc, rfl, rfl, _, wnc⟩ := open_int Tryz.underlying3 (hval 11 3 v11 rfl rfl) h11
  have hlen := trodVars_len hV
  obtain ⟨g1, g2, g3, g4, g5, rfl⟩ : ∃ g1 g2 g3 g4 g5, gs = [g1, g2, g3, g4, g5] := by
    match gs, hlen with
    | [g1, g2, g3, g4, g5], _ => exact ⟨g1, g2, g3, g4, g5, rfl⟩
  refine (walk_FnMathFunc3Whole name wname t wt kv wkv ka wka xa wxa na wna kb wkb xb wxb nb wnb kc wkc xc wxc nc wnc W (facts_of_laid hL)).mono fun e W' ⟨he, hb⟩ => ?_
  subst he
  exact ⟨_, rfl, _, _, _, [], p, q, hW', trodAll_cons_mk (shut_bool Tryz.underlying4 _) trodAll_mk0, below_trodAll laidOut hb (by as_aux_lemma => kernel_rfl) hA1 hlt, hb.trodVars laidOut (by as_aux_lemma => kernel_rfl) hV, hbefore ▸ hb.frame _, fun h => by cases h⟩

set_option maxHeartbeats 4000000 in
theorem closed_FnMathFunc3Whole : joinedFacts Tryz.prog 5 Tryz.f5 Rows.fnMathFunc3WholeSpec Rows.fnMathFunc3WholeRow = true := by
  unfold joinedFacts
  repeat' (with_reducible refine band ?_ ?_)
  · as_aux_lemma => kernel_rfl
  · exact laidOut
  · exact pf_mapsRowed
  · as_aux_lemma => kernel_rfl
  · as_aux_lemma => kernel_rfl
  · as_aux_lemma => kernel_rfl
  · exact pf_stops
  · as_aux_lemma => kernel_rfl
  · exact pf_stopKnobs
  · as_aux_lemma => kernel_rfl
  · as_aux_lemma => kernel_rfl
  · as_aux_lemma => kernel_rfl
  · as_aux_lemma => kernel_rfl
  · as_aux_lemma => kernel_rfl
  · as_aux_lemma => kernel_rfl
  · as_aux_lemma => kernel_rfl
  · as_aux_lemma => kernel_rfl
  · as_aux_lemma => kernel_rfl
  · as_aux_lemma => kernel_rfl
  · as_aux_lemma => kernel_rfl
  · as_aux_lemma => kernel_rfl
  · as_aux_lemma => kernel_rfl
  · exact pf_plainKeys
  · as_aux_lemma => kernel_rfl
  · exact pf_stopsHeard
  · exact pf_mayEnter
  · exact pf_lifted
  · exact pf_make
  · as_aux_lemma => kernel_rfl
  · as_aux_lemma => kernel_rfl
  · as_aux_lemma => kernel_rfl
  · as_aux_lemma => kernel_rfl
theorem said_FnMathFunc3Whole : Rows.FnMathFunc3WholeSaid :=
  OpenClaim.holds_of_wide 5 Tryz.f5 rfl rfl rfl rfl rfl rfl rfl ⟨rfl, rfl, rfl, rfl, rfl⟩ rfl rfl rfl rfl rfl (by as_aux_lemma => kernel_rfl) Tryz.func5 closed_FnMathFunc3Whole
    (of_decide_eq_true (by as_aux_lemma => kernel_rfl)) (by as_aux_lemma => (unfold Func.isWrapper; first | (rw [if_pos (by decide +kernel)]; kernel_rfl) | (rw [if_neg (by decide +kernel)]; exact ⟨rfl, rfl⟩)))
    (fun os started H enc _ => lifted_FnMathFunc3Whole os started H enc)

theorem plain_FnMathFunc3Whole (f : FuncId) (fn : Func) (hf : Tryz.pinned.checked.prog.funcNamed "github.com/itchyny/gojq/n001_45.FnMathFunc3Whole" = some f) (hfn : Tryz.pinned.checked.prog.funcs[f]? = some fn) :
    true = Tryz.pinned.checked.prog.looks [] ∧ ∀ (j : Nat) t, fn.params[j]? = some t → Tryz.pinned.checked.prog.wantsStandIn t = false := by
  obtain rfl : f = 5 := Option.some.inj ((show Tryz.prog.funcNamed "github.com/itchyny/gojq/n001_45.FnMathFunc3Whole" = some 5 by as_aux_lemma => kernel_rfl).symm.trans hf) |>.symm
  obtain rfl : fn = Tryz.f5 := (Option.some.inj (Tryz.func5.symm.trans hfn)).symm
  refine ⟨pf_looks, fun j t ht => ?_⟩
  rw [Tryz.params5] at ht
  have hm : t ∈ [9, 9, 5, 5, 22, 3, 5, 22, 3, 5, 22, 3] := by simpa using Array.mem_of_getElem? ht
  have hall : ([9, 9, 5, 5, 22, 3, 5, 22, 3, 5, 22, 3].all fun u => !Tryz.prog.wantsStandIn u) = true := by as_aux_lemma => kernel_rfl
  exact (show Tryz.prog.wantsStandIn t = false by simpa using List.all_eq_true.1 hall t hm)

/-- THE CARD. -/
theorem card_FnMathFunc3Whole : Rows.FnMathFunc3WholeCardSaid :=
  Claim7.holds_tied_plain_at .later [] _ _ _ _ said_FnMathFunc3Whole (fun _ h => by cases h) (by as_aux_lemma => kernel_rfl) (fun _ h => by cases h) fnMathFunc3Whole_row_tie rfl ⟨rfl, rfl⟩ (by as_aux_lemma => kernel_rfl) rfl plain_FnMathFunc3Whole (by as_aux_lemma => kernel_rfl)
#print axioms card_FnMathFunc3Whole
end Go.Proofs.YtipinccflmmepaaGreatDoor
