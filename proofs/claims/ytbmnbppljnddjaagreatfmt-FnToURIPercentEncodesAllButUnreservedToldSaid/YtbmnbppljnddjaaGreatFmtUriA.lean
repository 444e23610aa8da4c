/- Contracts: net/url's shouldEscape at the mode of a query's component. -/
import Derived.Test.YtbmnbppljnddjaaGreatFmtFacts
import Derived.Test.YtbmnbppljnddjaaGreatFmtRows
import Derived.Test.YtbmnbppljnddjaaGreatFmtUriP
import Derived.Lib.LaidTab
import Derived.Handy
namespace Go.Proofs.YtbmnbppljnddjaaGreatFmt
open Go.RowKit

def litInts : DataW Unit → List Int
  | .agg l => l.map fun d => match d with
    | .lit (.int _ z) => z
    | _ => 0
  | _ => []
/-- net/url's table as the row lists it. -/
def urlTab : List Int := litInts Rows.laid_net_url_table
set_option maxRecDepth 100000 in
theorem urlTab_all : ∀ c : Fin 256, (bits BinOp.and IntKind.u8 (urlTab.getD c.1 0) 32 == 0) = !Uri.unr c.1 := by decide +kernel
theorem urlTab_at (c : UInt8) : (bits BinOp.and IntKind.u8 (urlTab.getD c.toNat 0) 32 == 0) = !Uri.unr c.toNat := urlTab_all ⟨c.toNat, c.toNat_lt⟩
theorem urlTab_len : urlTab.length = 256 := by decide +kernel
theorem shouldEscape_any (c : UInt8) (W : World) (htab : Lib.TabIs Tryz.prog W "net/url.table" .u8 urlTab) :
    Calls Tryz.prog 40 #[.int .u8 (c.toNat : Int), .int .u8 32] W fun e w' => e = .returned (.bool (!Uri.unr c.toNat)) ∧ w' = W := by
  have hg : Tryz.prog.globalNamed "net/url.table" = some 0 := by kernel_rfl
  have hcl := htab.cell hg c.toNat (by rw [urlTab_len]; exact c.toNat_lt)
  have hu := urlTab_at c
  have hc := c.toNat_lt
  obtain ⟨z, hz⟩ : ∃ z, urlTab.getD c.toNat 0 = z := ⟨_, rfl⟩
  rw [hz] at hcl hu
  obtain ⟨k, hk⟩ : ∃ k, c.toNat = k := ⟨_, rfl⟩
  rw [hk] at hcl hu hc ⊢
  rw [← hu]
  clear htab hz hk hu
  go_enter Tryz.func40, Tryz.ntmps40
  go_wp2
  go_ret
  exact ⟨rfl, rfl⟩
end Go.Proofs.YtbmnbppljnddjaaGreatFmt
