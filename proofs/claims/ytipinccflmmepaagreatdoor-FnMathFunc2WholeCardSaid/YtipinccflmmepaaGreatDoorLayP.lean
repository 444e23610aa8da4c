/- What the rows' listed tables give a walk: the tables that strconv.ParseFloat reads (PfW). -/
import Derived.Test.YtipinccflmmepaaGreatDoorFrame
import Derived.Test.YtipinccflmmepaaGreatDoorPfA
import Derived.LaidSub
import Derived.Lib.LaidU8
import Derived.OpenShut
namespace Go.Proofs.YtipinccflmmepaaGreatDoor
open Go.RowKit Go.Lib

theorem var_reads {W : World} (hL : laidMetH Tryz.prog seatLaid W) (n : String) (d : DataW Unit) (hd : seatLaid.filter (fun x => x.1 == n) = [(n, d)]) (hp : ([(n, d)].all fun x => x.2.handleName?.isNone) = true) : VarReads Tryz.prog W n d := by
  have h := hL.filter (fun x => x.1 == n)
  rw [hd, MakeChecks.laidMetH_plain _ _ _ hp] at h
  exact laidMet.reads h (List.mem_singleton.2 rfl)
theorem lt_of_cell {w : World} {g o : Nat} {v : Value} (h : w.cell? ⟨g, o, none⟩ = some v) : g < w.heap.size := by
  by_cases c : g < w.heap.size
  · exact c
  · have e : w.heap[g]? = none := Array.getElem?_eq_none (by omega)
    simp [World.cell?, e] at h
theorem filter_pow : seatLaid.filter (fun x => x.1 == "internal/strconv.pow10Tab") = [("internal/strconv.pow10Tab", Rows.laid_internal_strconv_pow10Tab)] := by kernel_rfl
theorem filter_info : seatLaid.filter (fun x => x.1 == "internal/strconv.float64info") = [("internal/strconv.float64info", Rows.laid_internal_strconv_float64info)] := by kernel_rfl
theorem filter_opt : seatLaid.filter (fun x => x.1 == "internal/strconv.optimize") = [("internal/strconv.optimize", Rows.laid_internal_strconv_optimize)] := by kernel_rfl
theorem row_at {W : World} {n : String} {g : Nat} {t e : TypeId} {m : Nat} (ds : List (DataW Unit)) (i : Nat) (hi : i < m) (a b : Int) (h : VarReads Tryz.prog W n (.agg ds))
    (hg : Tryz.prog.globalNamed n = some g) (hty : (Tryz.prog.globals[g]?).map (·.type) = some t) (ht : Tryz.prog.underlying t = some (.array m e)) (fs : Array Field) (he : Tryz.prog.underlying e = some (.struct fs)) (hf : ∀ (i : Nat) (f : Field), fs[i]? = some f → Tryz.prog.underlying f.type = some (.int .u64) ∧ f.offset = i ∧ Tryz.prog.cellsOf f.type = 1) (hfs : fs.size = 2) (hc : Tryz.prog.cellsOf e = 2)
    (hds : ds[i]? = some (tabData .u64 [a, b])) : W.cell? ⟨g, i * 2, none⟩ = some (.int .u64 a) ∧ W.cell? ⟨g, i * 2 + 1, none⟩ = some (.int .u64 b) := by
  obtain ⟨g', t', cs, fuel, p, hg', ht', hvar, hd⟩ := h
  obtain rfl := Option.some.inj (hg.symm.trans hg')
  obtain rfl := Option.some.inj (hty.symm.trans ht')
  obtain ⟨fuel', d, q, h1, h2⟩ := array_elem ht hd i hi
  rw [hds] at h1
  obtain rfl := Option.some.inj h1
  have h3 := ints_of_struct he hf (by rw [hc, hfs]) h2
  rw [hc] at h3
  have k0 := World.var?_cell hg hvar (i * 2)
  have k1 := World.var?_cell hg hvar (i * 2 + 1)
  have e0 := congrArg (·[0]?) h3
  have e1 := congrArg (·[1]?) h3
  simp [List.getElem?_drop] at e0 e1
  exact ⟨k0.trans e0, k1.trans e1⟩
theorem facts_of_laid {W : World} (hL : laidMetH Tryz.prog seatLaid W) : PfW W := by
  have h1 := var_reads hL _ _ filter_pow (by kernel_rfl)
  have h2 := var_reads hL _ _ filter_info (by kernel_rfl)
  have h3 := var_reads hL _ _ filter_opt (by kernel_rfl)
  obtain ⟨ds, hds, hat⟩ : ∃ ds, Rows.laid_internal_strconv_pow10Tab = .agg ds ∧ ds[348]? = some (tabData .u64 [9223372036854775808, 0]) := ⟨_, rfl, by kernel_rfl⟩
  rw [hds] at h1
  obtain ⟨p0, p1⟩ := row_at (g := 19) (t := 267) (e := 266) ds 348 (by decide) _ _ h1 (by kernel_rfl) (by kernel_rfl) Tryz.underlying267 _ Tryz.underlying266 (by intro i f hf; rcases i with _ | _ | i <;> simp at hf <;> subst hf <;> exact ⟨by kernel_rfl, rfl, by kernel_rfl⟩) rfl (by kernel_rfl) hat
  obtain ⟨g, t, cs, fuel, p, hg, ht, hvar, hd⟩ := h2
  obtain rfl := Option.some.inj ((show Tryz.prog.globalNamed "internal/strconv.float64info" = some 13 by kernel_rfl).symm.trans hg)
  obtain rfl := Option.some.inj ((show (Tryz.prog.globals[13]?).map (·.type) = some 191 by kernel_rfl).symm.trans ht)
  obtain ⟨xs, n, rfl, hx, hl, hxl, hall⟩ := DataW.trod_struct Tryz.underlying191 hd
  have hx0 : xs[0]?.map (·.1) = some (.lit (.int .u64 52)) := by
    have := congrArg Prod.fst hx
    have e : DataW.agg (xs.map (·.1)) = Rows.laid_internal_strconv_float64info := this.symm
    have e2 := (DataW.agg.inj (e.trans rfl))
    rw [← List.getElem?_map, e2]
    rfl
  have h0 := hall 0 _ rfl
  obtain ⟨b, hb⟩ : ∃ b, xs[0]? = some b := ⟨xs[0]'(by rw [hxl]; decide), List.getElem?_eq_getElem _⟩
  rw [hb] at h0 hx0
  obtain ⟨z, hcz, rfl, _⟩ := DataW.trod_int (k := .u64) (by kernel_rfl) h0
  obtain rfl : z = 52 := by simpa using hx0
  have m0 : cs[0]? = some (.int .u64 52) := by
    have := congrArg (·[0]?) hcz
    simp [List.getElem?_take] at this
    rw [← this.2]
  have i0 := (World.var?_cell hg hvar 0).trans m0
  obtain ⟨g, t, cs, fuel, p, hg, ht, hvar, hd⟩ := h3
  obtain rfl := Option.some.inj ((show Tryz.prog.globalNamed "internal/strconv.optimize" = some 12 by kernel_rfl).symm.trans hg)
  obtain rfl := Option.some.inj ((show (Tryz.prog.globals[12]?).map (·.type) = some 4 by kernel_rfl).symm.trans ht)
  obtain ⟨b, hcs, hb⟩ := DataW.trod_bool Tryz.underlying4 hd
  obtain rfl : b = true := by
    have := congrArg Prod.fst hb
    have e : DataW.lit (.bool b) = (Rows.laid_internal_strconv_optimize : DataW Unit) := this.symm
    have e2 := e.trans (show (Rows.laid_internal_strconv_optimize : DataW Unit) = .lit (.bool true) from rfl)
    simpa using e2
  have o0 : W.cell? ⟨12, 0, none⟩ = some (.bool true) := (World.var?_cell hg hvar 0).trans (by rw [← Array.getElem?_toList, hcs]; rfl)
  exact ⟨p0, p1, i0, o0, lt_of_cell p0, lt_of_cell i0, lt_of_cell o0⟩
end Go.Proofs.YtipinccflmmepaaGreatDoor
