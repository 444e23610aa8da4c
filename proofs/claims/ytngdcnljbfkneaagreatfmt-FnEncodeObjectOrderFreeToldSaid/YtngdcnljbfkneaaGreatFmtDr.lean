/- unicode/utf8.DecodeRuneInString, out of the shelf, at every world that keeps the blocks below B. -/
import Derived.Test.YtngdcnljbfkneaaGreatFmtLaysD
import Derived.Shelf.Unicode.DecodeAny
import Derived.Below
namespace Go.Proofs.YtngdcnljbfkneaaGreatFmt
open Go.RowKit

def Utf8At (w : World) : Prop := Lib.Utf8Tabs 0 1 w
theorem dr_any (s : ByteArray) (w : World) (h : Utf8At w) : Calls Tryz.prog 31 #[.string s] w fun e w' => e = .returned (.tuple #[.int .i32 (Lib.decodeGo s).1, .int .i64 (Lib.decodeGo s).2]) ∧ Below w.heap.size w w' :=
  Any.utf8_DecodeRuneInString (P := Tryz.prog) (ρ := Tryz.laysB197_ren) Tryz.laysB197 s w h
/-- In every world that is as W below B the decoder answers. -/
def DrBelow (B : Nat) (W : World) : Prop := ∀ w, Below B W w → ∀ t : ByteArray, Calls Tryz.prog 31 #[.string t] w fun e w' => e = .returned (.tuple #[.int .i32 (Lib.decodeGo t).1, .int .i64 (Lib.decodeGo t).2]) ∧ Below w.heap.size w w'
theorem DrBelow.on {B : Nat} {W w : World} (h : DrBelow B W) (hb : Below B W w) : DrBelow B w := fun w' hb' => h w' (hb.trans hb')
theorem DrBelow.up {B B2 : Nat} {W : World} (h : DrBelow B W) (hB : B ≤ B2) : DrBelow B2 W := fun w' hb' => h w' (hb'.mono hB)
theorem dr_below (B : Nat) (W : World) (h : Utf8At W) (h1 : 0 < B) (h2 : 1 < B) : DrBelow B W := fun w hb t => dr_any t w ⟨fun c hc => (hb.cell (p := ⟨0, c, none⟩) h1).trans (h.1 c hc), fun i hi => ⟨(hb.cell (p := ⟨1, 2 * i, none⟩) h2).trans (h.2 i hi).1, (hb.cell (p := ⟨1, 2 * i + 1, none⟩) h2).trans (h.2 i hi).2⟩⟩
end Go.Proofs.YtngdcnljbfkneaaGreatFmt
