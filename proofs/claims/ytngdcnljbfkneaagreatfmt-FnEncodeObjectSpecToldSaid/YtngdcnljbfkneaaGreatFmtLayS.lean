/- What the rows' listed tables give a walk: the UTF-8 decoder's tables. -/
import Derived.Test.YtngdcnljbfkneaaGreatFmtFrameT
import Derived.Test.YtngdcnljbfkneaaGreatFmtDr
import Derived.LaidSub
import Derived.Lib.LaidU8
namespace Go.Proofs.YtngdcnljbfkneaaGreatFmt
open Go.RowKit Go.Lib

theorem var_reads {W : World} (hL : laidMetH Tryz.prog seatLaid W) (n : String) (d : DataW Unit) (hd : seatLaid.filter (fun x => x.1 == n) = [(n, d)]) (hp : ([(n, d)].all fun x => x.2.handleName?.isNone) = true) : VarReads Tryz.prog W n d := by
  have h := hL.filter (fun x => x.1 == n)
  rw [hd, MakeChecks.laidMetH_plain _ _ _ hp] at h
  exact laidMet.reads h (List.mem_singleton.2 rfl)
theorem lt_of_cell {w : World} {g o : Nat} {v : Value} (h : w.cell? ⟨g, o, none⟩ = some v) : g < w.heap.size := by
  by_cases c : g < w.heap.size
  · exact c
  · have e : w.heap[g]? = none := Array.getElem?_eq_none (by omega)
    simp [World.cell?, e] at h
theorem u8extra : Go.Proofs.U8Extra Tryz.prog Tryz.laysB197_ren := ⟨by kernel_rfl, by kernel_rfl, by kernel_rfl, by kernel_rfl, by kernel_rfl, by kernel_rfl, by kernel_rfl⟩
theorem filter_first : seatLaid.filter (fun x => x.1 == "unicode/utf8.first") = [("unicode/utf8.first", firstData)] := by kernel_rfl
theorem filter_accept : seatLaid.filter (fun x => x.1 == "unicode/utf8.acceptRanges") = [("unicode/utf8.acceptRanges", acceptData)] := by kernel_rfl
theorem dr_of_laid {W : World} (hL : laidMetH Tryz.prog seatLaid W) : DrBelow W.heap.size W := by
  have h3 := var_reads hL _ _ filter_first (by kernel_rfl)
  have h4 := var_reads hL _ _ filter_accept (by kernel_rfl)
  have h : Utf8At W := Go.Proofs.utf8Tabs_of_reads (P := Tryz.prog) (ρ := Tryz.laysB197_ren) { Tryz.laysB197 with } u8extra h3 h4
  exact dr_below _ W h (lt_of_cell (h.1 0 (by decide))) (lt_of_cell (h.2 0 (by decide)).1)
end Go.Proofs.YtngdcnljbfkneaaGreatFmt
