/- Contracts: readFloat of strconv at decimal texts: words. -/
import Derived.Test.YtngdcnljbfkneabGreatDoorFacts
import Derived.Test.YtngdcnljbfkneabGreatDoorDec
import Derived.Test.YtngdcnljbfkneabGreatDoorStr
import Derived.Lib.Hide
import Derived.WalkMore
import Derived.ScopeJumps
namespace Go.Proofs.YtngdcnljbfkneabGreatDoor
open Go.RowKit Go.Dec

theorem lower_any (c : Int) (w : World) : Calls Tryz.prog 65 #[.int .u8 c] w fun e w' => e = .returned (.int .u8 (bits .or .u8 c 32)) ∧ w = w' := by
  go_enter Tryz.func65, Tryz.ntmps65
  go_wp2
  go_ret
  exact ⟨rfl, rfl⟩
theorem or32 : bits .or .u8 46 32 = 46 ∧ bits .or .u8 101 32 = 101 ∧ bits .or .u8 69 32 = 101 := by decide +kernel
/-- What stands at place i of the text, for the walk. -/
theorem idx_at (s : ByteArray) (z : Int) (i : Nat) (c : Int) (hz : z = (i : Int)) (hi : i < s.size) (hc : ((s.data.toList.getD i 0).toNat : Int) = c) (w : World) : (Instr.index 9 (.string s) (.int .i64 z)).run Tryz.prog w = .ok (.int .u8 c) w := by
  rw [Str.idx_str 9 Tryz.underlying9 s .i64 z i hz hi w, hc]
/-- The reader's state behind j bytes. -/
def rfAt (body : List Nat) (j : Nat) : RF := (body.take j).foldl rfStep rf0
theorem rfAt_succ (body : List Nat) (j : Nat) (h : j < body.length) : rfAt body (j + 1) = rfStep (rfAt body j) (body.getD j 0) := by
  unfold rfAt
  rw [List.take_add_one, List.foldl_append, List.getElem?_eq_getElem h]
  simp [List.getD_eq_getElem?_getD, h]
/-- Each byte may stand where it stands. -/
def RfOk (body : List Nat) : Prop := ∀ j, j < body.length → (body.getD j 0 = 46 ∧ (rfAt body j).dot = false) ∨ (48 ≤ body.getD j 0 ∧ body.getD j 0 ≤ 57 ∧ (rfAt body j).nd < 19 ∧ (rfAt body j).mant < 1000000000000000000)
theorem rf_bd (body : List Nat) (hok : RfOk body) : ∀ j, j ≤ body.length → (rfAt body j).nd ≤ 19 ∧ -(j : Int) ≤ (rfAt body j).dp ∧ (rfAt body j).dp ≤ 19 ∧ (rfAt body j).mant < 10000000000000000000
  | 0, _ => by
    have e : rfAt body 0 = rf0 := by unfold rfAt; simp
    rw [e]; decide
  | j + 1, h => by
    obtain ⟨h1, h2, h3, h4⟩ := rf_bd body hok j (by omega)
    rw [rfAt_succ body j (by omega)]
    rcases hok j (by omega) with ⟨q, _⟩ | ⟨q1, q2, q3, q4⟩
    · unfold rfStep
      rw [if_pos q]
      refine ⟨h1, ?_, ?_, h4⟩
      · show -((j + 1 : Nat) : Int) ≤ ((rfAt body j).nd : Int); omega
      · show ((rfAt body j).nd : Int) ≤ 19; omega
    · unfold rfStep
      rw [if_neg (by omega)]
      by_cases z : body.getD j 0 = 48 ∧ (rfAt body j).nd = 0
      · rw [if_pos z]
        refine ⟨h1, ?_, ?_, h4⟩
        · show -((j + 1 : Nat) : Int) ≤ (rfAt body j).dp - 1; omega
        · show (rfAt body j).dp - 1 ≤ 19; omega
      · rw [if_neg z]
        refine ⟨?_, ?_, ?_, ?_⟩
        · show (rfAt body j).nd + 1 ≤ 19; omega
        · show -((j + 1 : Nat) : Int) ≤ (rfAt body j).dp; omega
        · exact h3
        · show (rfAt body j).mant * 10 + (body.getD j 0 - 48) < 10000000000000000000; omega
/-- The body's bytes stand in the text from place a on. -/
def Stands (s : ByteArray) (a : Nat) (body : List Nat) : Prop := a + body.length ≤ s.size ∧ ∀ j, j < body.length → (s.data.toList.getD (a + j) 0).toNat = body.getD j 0
theorem ret_rf {m x y : Int} {ng : Bool} {z : Int} (h : x = y) : Ending.returned (.tuple #[.int .u64 m, .int .i64 x, .bool ng, .bool false, .bool false, .int .i64 z, .bool true]) = .returned (.tuple #[.int .u64 m, .int .i64 y, .bool ng, .bool false, .bool false, .int .i64 z, .bool true]) := by rw [h]
end Go.Proofs.YtngdcnljbfkneabGreatDoor
