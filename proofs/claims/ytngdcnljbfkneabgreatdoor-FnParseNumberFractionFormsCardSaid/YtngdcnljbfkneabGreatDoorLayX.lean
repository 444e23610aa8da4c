/- What the rows' listed variables give the walk of FnParseNumberFractionForms (LawX): LayP's, the row of -3, the thousand, two error variables. -/
import Derived.Test.YtngdcnljbfkneabGreatDoorLayP
import Derived.Test.YtngdcnljbfkneabGreatDoorPn
namespace Go.Proofs.YtngdcnljbfkneabGreatDoor
open Go.RowKit Go.Lib

theorem filter_rng : seatLaid.filter (fun x => x.1 == "strconv.ErrRange") = [("strconv.ErrRange", Rows.laid_strconv_ErrRange)] := by kernel_rfl
theorem filter_eof : seatLaid.filter (fun x => x.1 == "io.EOF") = [("io.EOF", Rows.laid_io_EOF)] := by kernel_rfl
theorem err_cell {W : World} {n nm : String} {d : DataW Unit} {g : Nat} (h : VarReads Tryz.prog W n (.iface nm d)) (hg : Tryz.prog.globalNamed n = some g) (hty : (Tryz.prog.globals[g]?).map (·.type) = some 44) :
    (∃ tp p, W.cell? ⟨g, 0, none⟩ = some (.iface tp p)) ∧ g < W.heap.size := by
  obtain ⟨g', t, cs, fuel, p, hg', ht, hvar, hd⟩ := h
  obtain rfl := Option.some.inj (hg.symm.trans hg')
  obtain rfl := Option.some.inj (hty.symm.trans ht)
  obtain ⟨_, u, v, hcs, _, _⟩ := iface_of_trod Tryz.underlying44 hd
  have hc : cs = #[.iface u v] := by
    cases cs
    simp at hcs
    rw [hcs]
  subst hc
  exact ⟨⟨u, v, World.var?_cell hg hvar 0⟩, lt_of_cell (World.var?_cell hg hvar 0)⟩
theorem facts_of_laid_x {W : World} (hL : laidMetH Tryz.prog seatLaid W) : LawX W := by
  have hB := facts_of_laid hL
  have h1 := var_reads hL _ _ filter_pow (by kernel_rfl)
  have h4 := var_reads hL _ _ filter_ten (by kernel_rfl)
  have h5 := var_reads hL _ _ filter_rng (by kernel_rfl)
  have h6 := var_reads hL _ _ filter_eof (by kernel_rfl)
  obtain ⟨ds, hds, hat⟩ : ∃ ds, Rows.laid_internal_strconv_pow10Tab = .agg ds ∧ ds[345]? = some (tabData .u64 [9444732965739290428, 11215620396815407382]) := ⟨_, rfl, by kernel_rfl⟩
  rw [hds] at h1
  obtain ⟨p4, p5⟩ := row_at (g := 19) (t := 234) (e := 233) ds 345 (by decide) _ _ h1 (by kernel_rfl) (by kernel_rfl) Tryz.underlying234 _ Tryz.underlying233 (by intro i f hf; rcases i with _ | _ | i <;> simp at hf <;> subst hf <;> exact ⟨by kernel_rfl, rfl, by kernel_rfl⟩) rfl (by kernel_rfl) hat
  obtain ⟨ts, hts, hlen, hten⟩ : ∃ ts, (Rows.laid_internal_strconv_float64pow10 : DataW Unit) = .slice ts [] ∧ ts.length = 23 ∧ ts[3]? = some (.lit (.float .f64 4652007308841189376)) := ⟨_, rfl, rfl, rfl⟩
  rw [hts] at h4
  obtain ⟨bk, off, cap, q1, q2, q3⟩ := float_at (g := 17) (t := 209) (e := 23) ts 3 _ h4 (by kernel_rfl) (by kernel_rfl) (by kernel_rfl) Tryz.underlying23 (by kernel_rfl) hten
  rw [hlen] at q1
  obtain ⟨r1, r2⟩ := err_cell (g := 4) h5 (by kernel_rfl) (by kernel_rfl)
  obtain ⟨r3, r4⟩ := err_cell (g := 1) h6 (by kernel_rfl) (by kernel_rfl)
  exact ⟨hB, ⟨hB.pf, p4, p5, ⟨bk, off, cap, q1, q2, q3⟩⟩, ⟨r1, r3, r2, r4⟩⟩
end Go.Proofs.YtngdcnljbfkneabGreatDoor
