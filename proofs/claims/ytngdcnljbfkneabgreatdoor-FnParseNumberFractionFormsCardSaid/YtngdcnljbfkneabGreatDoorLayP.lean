/- What the rows' listed tables give a walk: the tables that strconv.ParseFloat reads at whole numbers and tenths, and the error's variable (LawW). -/
import Derived.Test.YtngdcnljbfkneabGreatDoorFrame
import Derived.Test.YtngdcnljbfkneabGreatDoorPnA
import Derived.LaidSub
import Derived.Lib.LaidU8
import Derived.OpenShut
import Derived.LaidLaws
namespace Go.Proofs.YtngdcnljbfkneabGreatDoor
open Go.RowKit Go.Lib

theorem var_reads {W : World} (hL : laidMetH Tryz.prog seatLaid W) (n : String) (d : DataW Unit) (hd : seatLaid.filter (fun x => x.1 == n) = [(n, d)]) (hp : ([(n, d)].all fun x => x.2.handleName?.isNone) = true) : VarReads Tryz.prog W n d := by
  have h := hL.filter (fun x => x.1 == n)
  rw [hd, MakeChecks.laidMetH_plain _ _ _ hp] at h
  exact laidMet.reads h (List.mem_singleton.2 rfl)
theorem lt_of_cell {w : World} {g o : Nat} {v : Value} (h : w.cell? ⟨g, o, none⟩ = some v) : g < w.heap.size := by
  by_cases c : g < w.heap.size
  · exact c
  · have e : w.heap[g]? = none := Array.getElem?_eq_none (by omega)
    simp [World.cell?, e] at h
theorem filter_pow : seatLaid.filter (fun x => x.1 == "internal/strconv.pow10Tab") = [("internal/strconv.pow10Tab", Rows.laid_internal_strconv_pow10Tab)] := by kernel_rfl
theorem filter_info : seatLaid.filter (fun x => x.1 == "internal/strconv.float64info") = [("internal/strconv.float64info", Rows.laid_internal_strconv_float64info)] := by kernel_rfl
theorem filter_opt : seatLaid.filter (fun x => x.1 == "internal/strconv.optimize") = [("internal/strconv.optimize", Rows.laid_internal_strconv_optimize)] := by kernel_rfl
theorem row_at {W : World} {n : String} {g : Nat} {t e : TypeId} {m : Nat} (ds : List (DataW Unit)) (i : Nat) (hi : i < m) (a b : Int) (h : VarReads Tryz.prog W n (.agg ds))
    (hg : Tryz.prog.globalNamed n = some g) (hty : (Tryz.prog.globals[g]?).map (·.type) = some t) (ht : Tryz.prog.underlying t = some (.array m e)) (fs : Array Field) (he : Tryz.prog.underlying e = some (.struct fs)) (hf : ∀ (i : Nat) (f : Field), fs[i]? = some f → Tryz.prog.underlying f.type = some (.int .u64) ∧ f.offset = i ∧ Tryz.prog.cellsOf f.type = 1) (hfs : fs.size = 2) (hc : Tryz.prog.cellsOf e = 2)
    (hds : ds[i]? = some (tabData .u64 [a, b])) : W.cell? ⟨g, i * 2, none⟩ = some (.int .u64 a) ∧ W.cell? ⟨g, i * 2 + 1, none⟩ = some (.int .u64 b) := by
  obtain ⟨g', t', cs, fuel, p, hg', ht', hvar, hd⟩ := h
  obtain rfl := Option.some.inj (hg.symm.trans hg')
  obtain rfl := Option.some.inj (hty.symm.trans ht')
  obtain ⟨fuel', d, q, h1, h2⟩ := array_elem ht hd i hi
  rw [hds] at h1
  obtain rfl := Option.some.inj h1
  have h3 := ints_of_struct he hf (by rw [hc, hfs]) h2
  rw [hc] at h3
  have k0 := World.var?_cell hg hvar (i * 2)
  have k1 := World.var?_cell hg hvar (i * 2 + 1)
  have e0 := congrArg (·[0]?) h3
  have e1 := congrArg (·[1]?) h3
  simp [List.getElem?_drop] at e0 e1
  exact ⟨k0.trans e0, k1.trans e1⟩
theorem filter_ten : seatLaid.filter (fun x => x.1 == "internal/strconv.float64pow10") = [("internal/strconv.float64pow10", Rows.laid_internal_strconv_float64pow10)] := by kernel_rfl
theorem filter_err : seatLaid.filter (fun x => x.1 == "strconv.ErrSyntax") = [("strconv.ErrSyntax", Rows.laid_strconv_ErrSyntax)] := by kernel_rfl
theorem trod_flt {H : Type} {enc : TypeId × Value → H} {P : Program} {w : World} {base : Nat} {sp : Nat → Bool} {held : Bool} {fuel : Nat} {t : TypeId} {cs : List Value} {x : DataW H × List MemPlace} {k : FloatKind} (ht : P.underlying t = some (.float k)) (h : DataW.trod enc P w base sp held fuel t cs = some x) : ∃ n, cs = [.float k n] ∧ x = (.lit (.float k n), []) := by
  cases fuel with
  | zero => simp [DataW.trod] at h
  | succ n =>
    unfold DataW.trod at h
    rw [ht] at h
    split at h <;> simp_all
theorem float_at {W : World} {n : String} {g : Nat} {t e : TypeId} (ds : List (DataW Unit)) (i b : Nat) (h : VarReads Tryz.prog W n (.slice ds []))
    (hg : Tryz.prog.globalNamed n = some g) (hty : (Tryz.prog.globals[g]?).map (·.type) = some t) (ht : Tryz.prog.underlying t = some (.slice e)) (he : Tryz.prog.underlying e = some (.float .f64)) (hc : Tryz.prog.cellsOf e = 1)
    (hds : ds[i]? = some (.lit (.float .f64 b))) : ∃ bk off cap, W.cell? ⟨g, 0, none⟩ = some (.slice (some ⟨bk, off, none⟩) ds.length cap) ∧ bk < W.heap.size ∧ W.cell? ⟨bk, off + i, none⟩ = some (.float .f64 b) := by
  obtain ⟨g', t', cs, fuel, p, hg', ht', hvar, hd⟩ := h
  obtain rfl := Option.some.inj (hg.symm.trans hg')
  obtain rfl := Option.some.inj (hty.symm.trans ht')
  rcases DataW.trod_slice ht hd with ⟨_, hx⟩ | ⟨a, len, cap, elems, rest, m, _, hcs, hx, _, _, _, hlen, hall, _⟩
  · cases hx
  · have he1 : ds = elems.map (·.1) := by
      have := congrArg Prod.fst hx
      have h2 : ds = elems.map (·.1) ∧ rest = [] := by simpa using this
      exact h2.1
    have hil : i < len := by
      have := (List.getElem?_eq_some_iff.1 hds).1
      rw [he1, List.length_map] at this
      omega
    have look : ∀ j, j < len → ∃ z x, elems[j]? = some x ∧ x.1 = .lit (.float .f64 z) ∧ W.cell? ((a.add j).add 0) = some (.float .f64 z) := by
      intro j hj
      have h1 := hall j hj
      obtain ⟨x, hx1⟩ : ∃ x, elems[j]? = some x := ⟨elems[j]'(by omega), List.getElem?_eq_getElem (by omega)⟩
      rw [hx1, hc, Nat.mul_one] at h1
      obtain ⟨cs', hc1, hc2⟩ := Option.bind_eq_some_iff.1 h1
      obtain ⟨_, hl2, hget⟩ := World.cells?_some hc1
      obtain ⟨z, rfl, rfl⟩ := trod_flt he hc2
      exact ⟨z, _, hx1, rfl, (hget 0 (by decide)).trans rfl⟩
    obtain ⟨_, _, _, _, hc0⟩ := look 0 (by omega)
    obtain ⟨z, x, hx1, hxz, hcell⟩ := look i hil
    have hz : z = b := by
      rw [he1, List.getElem?_map, hx1] at hds
      simp [hxz] at hds
      exact hds
    subst hz
    obtain ⟨bk, off, sp⟩ := a
    have e1 : ((⟨bk, off, sp⟩ : Addr).add 0).add 0 = ⟨bk, off, sp⟩ := by
      have : ∀ a : Addr, a.add 0 = a := fun a => by unfold Addr.add; rw [if_pos rfl]
      rw [this, this]
    rw [e1] at hc0
    obtain rfl := cell_spot hc0
    rw [WideShapes.add_plain, WideShapes.add_plain, Nat.add_zero] at hcell
    refine ⟨bk, off, cap, ?_, lt_of_cell hcell, hcell⟩
    rw [World.var?_cell hg hvar 0, ← Array.getElem?_toList, hcs, he1, List.length_map, hlen]
    rfl
theorem facts_of_laid {W : World} (hL : laidMetH Tryz.prog seatLaid W) : LawW W := by
  have h1 := var_reads hL _ _ filter_pow (by kernel_rfl)
  have h2 := var_reads hL _ _ filter_info (by kernel_rfl)
  have h3 := var_reads hL _ _ filter_opt (by kernel_rfl)
  have h4 := var_reads hL _ _ filter_ten (by kernel_rfl)
  have h5 := var_reads hL _ _ filter_err (by kernel_rfl)
  obtain ⟨ds, hds, hat, hat2⟩ : ∃ ds, Rows.laid_internal_strconv_pow10Tab = .agg ds ∧ ds[348]? = some (tabData .u64 [9223372036854775808, 0]) ∧ ds[347]? = some (tabData .u64 [14757395258967641293, 3689348814741910323]) := ⟨_, rfl, by kernel_rfl, by kernel_rfl⟩
  rw [hds] at h1
  obtain ⟨p0, p1⟩ := row_at (g := 19) (t := 234) (e := 233) ds 348 (by decide) _ _ h1 (by kernel_rfl) (by kernel_rfl) Tryz.underlying234 _ Tryz.underlying233 (by intro i f hf; rcases i with _ | _ | i <;> simp at hf <;> subst hf <;> exact ⟨by kernel_rfl, rfl, by kernel_rfl⟩) rfl (by kernel_rfl) hat
  obtain ⟨p2, p3⟩ := row_at (g := 19) (t := 234) (e := 233) ds 347 (by decide) _ _ h1 (by kernel_rfl) (by kernel_rfl) Tryz.underlying234 _ Tryz.underlying233 (by intro i f hf; rcases i with _ | _ | i <;> simp at hf <;> subst hf <;> exact ⟨by kernel_rfl, rfl, by kernel_rfl⟩) rfl (by kernel_rfl) hat2
  obtain ⟨g, t, cs, fuel, p, hg, ht, hvar, hd⟩ := h2
  obtain rfl := Option.some.inj ((show Tryz.prog.globalNamed "internal/strconv.float64info" = some 13 by kernel_rfl).symm.trans hg)
  obtain rfl := Option.some.inj ((show (Tryz.prog.globals[13]?).map (·.type) = some 159 by kernel_rfl).symm.trans ht)
  obtain ⟨xs, n, rfl, hx, hl, hxl, hall⟩ := DataW.trod_struct Tryz.underlying159 hd
  have hx0 : xs[0]?.map (·.1) = some (.lit (.int .u64 52)) := by
    have := congrArg Prod.fst hx
    have e : DataW.agg (xs.map (·.1)) = Rows.laid_internal_strconv_float64info := this.symm
    have e2 := (DataW.agg.inj (e.trans rfl))
    rw [← List.getElem?_map, e2]
    rfl
  have h0 := hall 0 _ rfl
  obtain ⟨b, hb⟩ : ∃ b, xs[0]? = some b := ⟨xs[0]'(by rw [hxl]; decide), List.getElem?_eq_getElem _⟩
  rw [hb] at h0 hx0
  obtain ⟨z, hcz, rfl, _⟩ := DataW.trod_int (k := .u64) (by kernel_rfl) h0
  obtain rfl : z = 52 := by simpa using hx0
  have m0 : cs[0]? = some (.int .u64 52) := by
    have := congrArg (·[0]?) hcz
    simp [List.getElem?_take] at this
    rw [← this.2]
  have i0 := (World.var?_cell hg hvar 0).trans m0
  obtain ⟨g, t, cs, fuel, p, hg, ht, hvar, hd⟩ := h3
  obtain rfl := Option.some.inj ((show Tryz.prog.globalNamed "internal/strconv.optimize" = some 12 by kernel_rfl).symm.trans hg)
  obtain rfl := Option.some.inj ((show (Tryz.prog.globals[12]?).map (·.type) = some 4 by kernel_rfl).symm.trans ht)
  obtain ⟨b, hcs, hb⟩ := DataW.trod_bool Tryz.underlying4 hd
  obtain rfl : b = true := by
    have := congrArg Prod.fst hb
    have e : DataW.lit (.bool b) = (Rows.laid_internal_strconv_optimize : DataW Unit) := this.symm
    have e2 := e.trans (show (Rows.laid_internal_strconv_optimize : DataW Unit) = .lit (.bool true) from rfl)
    simpa using e2
  have o0 : W.cell? ⟨12, 0, none⟩ = some (.bool true) := (World.var?_cell hg hvar 0).trans (by rw [← Array.getElem?_toList, hcs]; rfl)
  obtain ⟨ts, hts, hlen, hten⟩ : ∃ ts, (Rows.laid_internal_strconv_float64pow10 : DataW Unit) = .slice ts [] ∧ ts.length = 23 ∧ ts[1]? = some (.lit (.float .f64 4621819117588971520)) := ⟨_, rfl, rfl, rfl⟩
  rw [hts] at h4
  obtain ⟨bk, off, cap, q1, q2, q3⟩ := float_at (g := 17) (t := 209) (e := 23) ts 1 _ h4 (by kernel_rfl) (by kernel_rfl) (by kernel_rfl) Tryz.underlying23 (by kernel_rfl) hten
  rw [hlen] at q1
  obtain ⟨herr, hsz⟩ : ErrVar W ∧ 3 < W.heap.size := by
    obtain ⟨g, t, cs, fuel, p, hg, ht, hvar, hd⟩ := h5
    obtain rfl := Option.some.inj ((show Tryz.prog.globalNamed "strconv.ErrSyntax" = some 3 by kernel_rfl).symm.trans hg)
    obtain rfl := Option.some.inj ((show (Tryz.prog.globals[3]?).map (·.type) = some 44 by kernel_rfl).symm.trans ht)
    obtain ⟨_, u, v, hcs, _, _⟩ := iface_of_trod Tryz.underlying44 hd
    have hc : cs = #[.iface u v] := by
      cases cs
      simp at hcs
      rw [hcs]
    subst hc
    exact ⟨⟨u, v, hvar⟩, lt_of_cell (World.var?_cell hg hvar 0)⟩
  exact ⟨⟨⟨p0, p1, i0, o0, lt_of_cell p0, lt_of_cell i0, lt_of_cell o0⟩, p2, p3, ⟨bk, off, cap, q1, q2, q3⟩, lt_of_cell q1⟩, herr, hsz⟩
end Go.Proofs.YtngdcnljbfkneabGreatDoor
