/- Contracts: the helpers of the laws on encoded objects. -/
import Derived.Test.YtngdcnljbfkneaaGreatFmtObjA
import Derived.Test.YtngdcnljbfkneaaGreatFmtIntK
import Derived.ScopeJumps
import Derived.Handy
import Derived.Deep.QuietTactic
namespace Go.Proofs.YtngdcnljbfkneaaGreatFmt
open Go.RowKit Go.Deep Go.Lib Go.Sort Go.ObjP

def kzOf (zs : List ByteArray) : Nat → Key := fun i => (zs.getD i ByteArray.empty).data.toList
def vzOf (vs : List Int) : Nat → Int := fun i => vs.getD i 0

/-! ### byte order -/
set_option maxRecDepth 100000 in
set_option maxHeartbeats 2000000 in
theorem lessB2_nb (a b : ByteArray) (na nb : Nat) (hna : a.size = na) (hnb : b.size = nb) (ha : na ≤ 1048576) (hb : nb ≤ 1048576) (hc : nb < na) (w : World) :
    Calls Tryz.prog 13 #[.string a, .string b] w fun e w' => e = .returned (.bool (decide (a.data.toList < b.data.toList))) ∧ ∃ q, w' = w.drewN q := by
  have hla : a.data.toList.length = na := hna
  have hlb : b.data.toList.length = nb := hnb
  have hsa : (a.size : Int) = na := by rw [hna]
  have hsb : (b.size : Int) = nb := by rw [hnb]
  have hci : (nb : Int) < na := by omega
  have HIA : Hid (∀ i, i < nb → ∀ w, (Instr.index 9 (.string a) (.int .i64 (i : Int))).run Tryz.prog w = .ok (.int .u8 ((a.data.toList.getD i 0).toNat : Int)) w) := Lib.hid fun i hi w => Str.idx_str (P := Tryz.prog) 9 Tryz.underlying9 a .i64 i i rfl (by omega) w
  have HIB : Hid (∀ i, i < nb → ∀ w, (Instr.index 9 (.string b) (.int .i64 (i : Int))).run Tryz.prog w = .ok (.int .u8 ((b.data.toList.getD i 0).toNat : Int)) w) := Lib.hid fun i hi w => Str.idx_str (P := Tryz.prog) 9 Tryz.underlying9 b .i64 i i rfl (by omega) w
  have HLA := Lib.hid hla
  have HLB := Lib.hid hlb
  clear hla hlb hna hnb
  go_enter Tryz.func13, Tryz.ntmps13
  go_wp2
  go_loopw [6] (fun i wr => ∃ k q : Nat, k ≤ nb ∧ i = .int .i64 k ∧ wr = w.drewN q ∧ Hid (∀ j, j < k → a.data.toList.getD j 0 = b.data.toList.getD j 0)) (fun i _ => nb - (intOf i).toNat)
  case atStart => exact ⟨0, 0, Nat.zero_le _, rfl, rfl, Lib.hid fun j hj => absurd hj (Nat.not_lt_zero _)⟩
  case round =>
    obtain ⟨k, q, hk, rfl, rfl, HK⟩ := hrel
    by_cases hlt : k < nb
    · have ia := HIA.out k hlt
      have ib := HIB.out k hlt
      obtain ⟨x, hx⟩ : ∃ x : UInt8, a.data.toList.getD k 0 = x := ⟨_, rfl⟩
      obtain ⟨y, hy⟩ : ∃ y : UInt8, b.data.toList.getD k 0 = y := ⟨_, rfl⟩
      rw [hx] at ia
      rw [hy] at ib
      have hxa : a.data.toList[k]'(by rw [HLA.out]; omega) = x := by rw [← hx, List.getD_eq_getElem?_getD, List.getElem?_eq_getElem (by rw [HLA.out]; omega)]; rfl
      have hyb : b.data.toList[k]'(by rw [HLB.out]; omega) = y := by rw [← hy, List.getD_eq_getElem?_getD, List.getElem?_eq_getElem (by rw [HLB.out]; omega)]; rfl
      by_cases hxy : x = y
      · have HXY := Lib.hid (hx.trans (hxy.trans hy.symm))
        subst hxy
        clear hx hy hxa hyb
        obtain ⟨X, hX⟩ : ∃ X : Int, X = (x.toNat : Int) := ⟨_, rfl⟩
        rw [← hX] at ia ib
        clear hX
        go_wp2
        go_quiet (fail)
        go_wp2
        go_roundw
        case rel => exact ⟨k + 1, q + nq, by omega, by go_num, rfl, Lib.hid fun j hj => by
          by_cases e : j = k
          · rw [e]; exact HXY.out
          · exact HK.out j (by omega)⟩
        case measure => simp [intOf]; omega
      · have HR : Hid (decide ((x.toNat : Int) < (y.toNat : Int)) = decide (a.data.toList < b.data.toList)) := Lib.hid (by
          rw [decide_eq_decide, lex_at k _ _ (by rw [HLA.out]; omega) (by rw [HLB.out]; omega) HK.out (by rw [hxa, hyb]; exact hxy), hxa, hyb, UInt8.lt_iff_toNat_lt]
          omega)
        have hne : (x.toNat : Int) ≠ (y.toNat : Int) := fun h => hxy (UInt8.toNat_inj.1 (by omega))
        clear hx hy hxa hyb hxy
        obtain ⟨X, hX⟩ : ∃ X : Int, X = (x.toNat : Int) := ⟨_, rfl⟩
        obtain ⟨Y, hY⟩ : ∃ Y : Int, Y = (y.toNat : Int) := ⟨_, rfl⟩
        rw [← hX] at ia hne HR
        rw [← hY] at ib hne HR
        have hXY : (X == Y) = false := by simpa using hne
        clear hX hY
        go_wp2
        go_quiet (fail)
        go_wp2
        go_quiet (fail)
        go_wp2
        go_ret
        exact ⟨congrArg (fun b => Ending.returned (.bool b)) HR.out, _, by rw [World.drewN_drewN, World.drewN_drewN]⟩
    · obtain rfl : nb = k := by omega
      have HR : Hid (decide (na < nb) = decide (a.data.toList < b.data.toList)) := Lib.hid (by
        rw [decide_eq_decide, lex_end _ _ (fun j h1 h2 => HK.out j (by rw [HLA.out] at h1; rw [HLB.out] at h2; omega)), HLA.out, HLB.out])
      go_wp2
      go_ret
      exact ⟨congrArg (fun b => Ending.returned (.bool b)) HR.out, q, rfl⟩
set_option maxRecDepth 100000 in
set_option maxHeartbeats 2000000 in
theorem lessB2_na (a b : ByteArray) (na nb : Nat) (hna : a.size = na) (hnb : b.size = nb) (_ha : na ≤ 1048576) (hb : nb ≤ 1048576) (hc : ¬ nb < na) (w : World) :
    Calls Tryz.prog 13 #[.string a, .string b] w fun e w' => e = .returned (.bool (decide (a.data.toList < b.data.toList))) ∧ ∃ q, w' = w.drewN q := by
  have hla : a.data.toList.length = na := hna
  have hlb : b.data.toList.length = nb := hnb
  have hsa : (a.size : Int) = na := by rw [hna]
  have hsb : (b.size : Int) = nb := by rw [hnb]
  have hci : ¬ ((nb : Int) < na) := by omega
  have HIA : Hid (∀ i, i < na → ∀ w, (Instr.index 9 (.string a) (.int .i64 (i : Int))).run Tryz.prog w = .ok (.int .u8 ((a.data.toList.getD i 0).toNat : Int)) w) := Lib.hid fun i hi w => Str.idx_str (P := Tryz.prog) 9 Tryz.underlying9 a .i64 i i rfl (by omega) w
  have HIB : Hid (∀ i, i < na → ∀ w, (Instr.index 9 (.string b) (.int .i64 (i : Int))).run Tryz.prog w = .ok (.int .u8 ((b.data.toList.getD i 0).toNat : Int)) w) := Lib.hid fun i hi w => Str.idx_str (P := Tryz.prog) 9 Tryz.underlying9 b .i64 i i rfl (by omega) w
  have HLA := Lib.hid hla
  have HLB := Lib.hid hlb
  clear hla hlb hna hnb
  go_enter Tryz.func13, Tryz.ntmps13
  go_wp2
  go_loopw [6] (fun i wr => ∃ k q : Nat, k ≤ na ∧ i = .int .i64 k ∧ wr = w.drewN q ∧ Hid (∀ j, j < k → a.data.toList.getD j 0 = b.data.toList.getD j 0)) (fun i _ => na - (intOf i).toNat)
  case atStart => exact ⟨0, 0, Nat.zero_le _, rfl, rfl, Lib.hid fun j hj => absurd hj (Nat.not_lt_zero _)⟩
  case round =>
    obtain ⟨k, q, hk, rfl, rfl, HK⟩ := hrel
    by_cases hlt : k < na
    · have ia := HIA.out k hlt
      have ib := HIB.out k hlt
      obtain ⟨x, hx⟩ : ∃ x : UInt8, a.data.toList.getD k 0 = x := ⟨_, rfl⟩
      obtain ⟨y, hy⟩ : ∃ y : UInt8, b.data.toList.getD k 0 = y := ⟨_, rfl⟩
      rw [hx] at ia
      rw [hy] at ib
      have hxa : a.data.toList[k]'(by rw [HLA.out]; omega) = x := by rw [← hx, List.getD_eq_getElem?_getD, List.getElem?_eq_getElem (by rw [HLA.out]; omega)]; rfl
      have hyb : b.data.toList[k]'(by rw [HLB.out]; omega) = y := by rw [← hy, List.getD_eq_getElem?_getD, List.getElem?_eq_getElem (by rw [HLB.out]; omega)]; rfl
      by_cases hxy : x = y
      · have HXY := Lib.hid (hx.trans (hxy.trans hy.symm))
        subst hxy
        clear hx hy hxa hyb
        obtain ⟨X, hX⟩ : ∃ X : Int, X = (x.toNat : Int) := ⟨_, rfl⟩
        rw [← hX] at ia ib
        clear hX
        go_wp2
        go_quiet (fail)
        go_wp2
        go_roundw
        case rel => exact ⟨k + 1, q + nq, by omega, by go_num, rfl, Lib.hid fun j hj => by
          by_cases e : j = k
          · rw [e]; exact HXY.out
          · exact HK.out j (by omega)⟩
        case measure => simp [intOf]; omega
      · have HR : Hid (decide ((x.toNat : Int) < (y.toNat : Int)) = decide (a.data.toList < b.data.toList)) := Lib.hid (by
          rw [decide_eq_decide, lex_at k _ _ (by rw [HLA.out]; omega) (by rw [HLB.out]; omega) HK.out (by rw [hxa, hyb]; exact hxy), hxa, hyb, UInt8.lt_iff_toNat_lt]
          omega)
        have hne : (x.toNat : Int) ≠ (y.toNat : Int) := fun h => hxy (UInt8.toNat_inj.1 (by omega))
        clear hx hy hxa hyb hxy
        obtain ⟨X, hX⟩ : ∃ X : Int, X = (x.toNat : Int) := ⟨_, rfl⟩
        obtain ⟨Y, hY⟩ : ∃ Y : Int, Y = (y.toNat : Int) := ⟨_, rfl⟩
        rw [← hX] at ia hne HR
        rw [← hY] at ib hne HR
        have hXY : (X == Y) = false := by simpa using hne
        clear hX hY
        go_wp2
        go_quiet (fail)
        go_wp2
        go_quiet (fail)
        go_wp2
        go_ret
        exact ⟨congrArg (fun b => Ending.returned (.bool b)) HR.out, _, by rw [World.drewN_drewN, World.drewN_drewN]⟩
    · obtain rfl : na = k := by omega
      have HR : Hid (decide (na < nb) = decide (a.data.toList < b.data.toList)) := Lib.hid (by
        rw [decide_eq_decide, lex_end _ _ (fun j h1 h2 => HK.out j (by rw [HLA.out] at h1; rw [HLB.out] at h2; omega)), HLA.out, HLB.out])
      go_wp2
      go_ret
      exact ⟨congrArg (fun b => Ending.returned (.bool b)) HR.out, q, rfl⟩
theorem lessB2_any (a b : ByteArray) (ha : a.size ≤ 1048576) (hb : b.size ≤ 1048576) (w : World) :
    Calls Tryz.prog 13 #[.string a, .string b] w fun e w' => e = .returned (.bool (decide (a.data.toList < b.data.toList))) ∧ ∃ q, w' = w.drewN q := by
  by_cases hc : b.size < a.size
  · exact lessB2_nb a b _ _ rfl rfl ha hb hc w
  · exact lessB2_na a b _ _ rfl rfl ha hb hc w

/-! ### the guards -/
def kvTot (zs : List ByteArray) (nk nv : Nat) : Nat → Nat
  | 0 => 16 * nk + 8 * nv
  | k + 1 => kvTot zs nk nv k + szAt zs k
theorem kvTot_le (zs : List ByteArray) (nk nv : Nat) (hz : Sizes zs) : ∀ k, kvTot zs nk nv k ≤ 16 * nk + 8 * nv + 1048576 * k
  | 0 => by unfold kvTot; omega
  | k + 1 => by
    have := kvTot_le zs nk nv hz k
    have h := hz k
    unfold kvTot szAt
    omega
set_option maxRecDepth 100000 in
set_option maxHeartbeats 2000000 in
theorem kvBytes_any (zs : List ByteArray) (nk nv : Nat) (a av : Option Addr) (cap capv : Nat) (hz : Sizes zs) (h1 : nk ≤ 4096) (h2 : nv ≤ 4096) (W : World) (hv : TextCells zs nk a W) :
    Calls Tryz.prog 6 #[.slice a nk cap, .slice av nv capv] W fun e w' => e = .returned (.int .i64 (kvTot zs nk nv nk : Nat)) ∧ W = w' := by
  have HC := Lib.hid hv
  have HT := Lib.hid (kvTot_le zs nk nv hz)
  have HS : Hid (kvTot zs nk nv 0 = 16 * nk + 8 * nv) := Lib.hid rfl
  have HP : Hid (∀ k, kvTot zs nk nv (k + 1) = kvTot zs nk nv k + szAt zs k) := Lib.hid fun k => rfl
  have HZ := Lib.hid hz
  clear hv hz
  obtain ⟨K, hK⟩ : ∃ K, K = kvTot zs nk nv := ⟨_, rfl⟩
  rw [← hK] at HT HS HP ⊢
  clear hK
  go_enter Tryz.func6, Tryz.ntmps6
  go_wp2
  go_loop [5, 6] (fun t i => ∃ k : Nat, ∃ s : Int, k ≤ nk ∧ t = .int .i64 s ∧ i = .int .i64 k ∧ Hid (s = K k)) (fun _ i => nk - (intOf i).toNat)
  case atStart => exact ⟨0, _, Nat.zero_le _, rfl, rfl, Lib.hid (by rw [HS.out]; omega)⟩
  case round =>
    obtain ⟨k, s, hk, rfl, rfl, HK⟩ := hrel
    have hs := HT.out k
    have hks := HK.out
    have b0 : 0 ≤ s := by omega
    have b1 : s ≤ 5000000000 := by omega
    clear hs hks
    by_cases hlt : k < nk
    · obtain ⟨b, off, hx, hbl, hcell⟩ := HC.out (by omega)
      cases hx
      have hcx := hcell k hlt
      have hml := HZ.out k
      obtain ⟨x, hxx⟩ : ∃ x, zs.getD k ByteArray.empty = x := ⟨_, rfl⟩
      rw [hxx] at hcx hml
      have HM : Hid (szAt zs k = x.size) := Lib.hid (by unfold szAt; rw [hxx])
      clear hcell hxx
      obtain ⟨m', hm2⟩ : ∃ m', x.size = m' := ⟨_, rfl⟩
      rw [hm2] at hml HM
      go_wp2
      go_round
      case rel => exact ⟨k + 1, s + m', by omega, by go_num, by go_num, Lib.hid (by rw [HP.out, HM.out, HK.out]; omega)⟩
      case measure => simp [intOf]; omega
    · obtain rfl : nk = k := by omega
      go_wp2
      go_ret
      exact ⟨congrArg (fun z => Ending.returned (.int .i64 z)) HK.out, rfl⟩
def BytesKV (ss : List ByteArray) (n : Nat) (W : World) (e : Ending) (w' : World) : Prop :=
  ∃ b, e = .returned (.bool b) ∧ (b = true → ∀ j, j < n → szAt ss j ≤ 1048576) ∧ W = w'
set_option maxRecDepth 100000 in
set_option maxHeartbeats 2000000 in
theorem zzbP (ss : List ByteArray) (n : Nat) (a av : Option Addr) (cap nv capv : Nat) (W : World) (hv : TextCells ss n a W) (hmx : ∀ j, j < n → szAt ss j ≤ maxLen) :
    Calls Tryz.prog 12 #[.slice a n cap, .slice av nv capv] W (BytesKV ss n W) := by
  have HC := Lib.hid hv
  have HMX := Lib.hid hmx
  clear hv hmx
  by_cases c : 1048576 < n
  · go_enter Tryz.func12, Tryz.ntmps12
    go_wp2
    go_ret
    exact ⟨false, rfl, (fun h => by cases h), rfl⟩
  · have hm : n ≤ 1048576 := by omega
    go_enter Tryz.func12, Tryz.ntmps12
    go_wp2
    go_loop [5, 6] (fun t i => ∃ k s : Nat, k ≤ n ∧ s ≤ 1048576 ∧ t = .int .i64 s ∧ i = .int .i64 k ∧ Hid (∀ j, j < k → szAt ss j ≤ 1048576)) (fun _ i => n - (intOf i).toNat)
    case atStart => exact ⟨0, n, Nat.zero_le _, hm, rfl, rfl, Lib.hid fun j hj => absurd hj (Nat.not_lt_zero _)⟩
    case round =>
      obtain ⟨k, s, hk, hs, rfl, rfl, HK⟩ := hrel
      by_cases hlt : k < n
      · obtain ⟨b, off, hx, hbl, hcell⟩ := HC.out (by omega)
        cases hx
        have hcx := hcell k hlt
        obtain ⟨x, hxx⟩ : ∃ x, ss.getD k ByteArray.empty = x := ⟨_, rfl⟩
        rw [hxx] at hcx
        have hml : x.size ≤ maxLen := by have := HMX.out k hlt; unfold szAt at this; rw [hxx] at this; exact this
        have HM : Hid (szAt ss k = x.size) := Lib.hid (by unfold szAt; rw [hxx])
        clear hcell hxx
        obtain ⟨m', hm2⟩ : ∃ m', x.size = m' := ⟨_, rfl⟩
        rw [hm2] at hml HM
        unfold maxLen at hml
        by_cases c1 : 1048576 < m'
        · go_wp2
          go_ret
          exact ⟨false, rfl, (fun h => by cases h), rfl⟩
        · by_cases c2 : 1048576 < s + m'
          · have i2 : (1048576 : Int) < (s : Int) + (m' : Int) := by omega
            go_wp2
            go_ret
            exact ⟨false, rfl, (fun h => by cases h), rfl⟩
          · have i2 : ¬ ((1048576 : Int) < (s : Int) + (m' : Int)) := by omega
            go_wp2
            go_round
            case rel => exact ⟨k + 1, s + m', by omega, by omega, by go_num, by go_num, Lib.hid fun j hj => by
              by_cases e : j = k
              · rw [e, HM.out]; omega
              · exact HK.out j (by omega)⟩
            case measure => simp [intOf]; omega
      · obtain rfl : k = n := by omega
        by_cases d1 : 1048576 < nv
        · go_wp2
          go_ret
          exact ⟨false, rfl, (fun h => by cases h), rfl⟩
        · by_cases d2 : 1048576 < s + nv
          · have i2 : (1048576 : Int) < (s : Int) + (nv : Int) := by omega
            go_wp2
            go_ret
            exact ⟨false, rfl, (fun h => by cases h), rfl⟩
          · have i2 : ¬ ((1048576 : Int) < (s : Int) + (nv : Int)) := by omega
            go_wp2
            go_ret
            exact ⟨true, rfl, fun _ => HK.out, rfl⟩
set_option maxRecDepth 100000 in
set_option maxHeartbeats 2000000 in
theorem zzbQ (ss : List ByteArray) (n : Nat) (a av : Option Addr) (cap nv capv : Nat) (W : World) (hv : TextCells ss n a W) (hmx : ∀ j, j < n → szAt ss j ≤ maxLen) :
    Calls Tryz.prog 5 #[.slice a n cap, .slice av nv capv] W (BytesKV ss n W) := by
  have HC := Lib.hid hv
  have HMX := Lib.hid hmx
  clear hv hmx
  by_cases c : 1048576 < n
  · go_enter Tryz.func5, Tryz.ntmps5
    go_wp2
    go_ret
    exact ⟨false, rfl, (fun h => by cases h), rfl⟩
  · have hm : n ≤ 1048576 := by omega
    go_enter Tryz.func5, Tryz.ntmps5
    go_wp2
    go_loop [5, 6] (fun t i => ∃ k s : Nat, k ≤ n ∧ s ≤ 1048576 ∧ t = .int .i64 s ∧ i = .int .i64 k ∧ Hid (∀ j, j < k → szAt ss j ≤ 1048576)) (fun _ i => n - (intOf i).toNat)
    case atStart => exact ⟨0, n, Nat.zero_le _, hm, rfl, rfl, Lib.hid fun j hj => absurd hj (Nat.not_lt_zero _)⟩
    case round =>
      obtain ⟨k, s, hk, hs, rfl, rfl, HK⟩ := hrel
      by_cases hlt : k < n
      · obtain ⟨b, off, hx, hbl, hcell⟩ := HC.out (by omega)
        cases hx
        have hcx := hcell k hlt
        obtain ⟨x, hxx⟩ : ∃ x, ss.getD k ByteArray.empty = x := ⟨_, rfl⟩
        rw [hxx] at hcx
        have hml : x.size ≤ maxLen := by have := HMX.out k hlt; unfold szAt at this; rw [hxx] at this; exact this
        have HM : Hid (szAt ss k = x.size) := Lib.hid (by unfold szAt; rw [hxx])
        clear hcell hxx
        obtain ⟨m', hm2⟩ : ∃ m', x.size = m' := ⟨_, rfl⟩
        rw [hm2] at hml HM
        unfold maxLen at hml
        by_cases c1 : 1048576 < m'
        · go_wp2
          go_ret
          exact ⟨false, rfl, (fun h => by cases h), rfl⟩
        · by_cases c2 : 1048576 < s + m'
          · have i2 : (1048576 : Int) < (s : Int) + (m' : Int) := by omega
            go_wp2
            go_ret
            exact ⟨false, rfl, (fun h => by cases h), rfl⟩
          · have i2 : ¬ ((1048576 : Int) < (s : Int) + (m' : Int)) := by omega
            go_wp2
            go_round
            case rel => exact ⟨k + 1, s + m', by omega, by omega, by go_num, by go_num, Lib.hid fun j hj => by
              by_cases e : j = k
              · rw [e, HM.out]; omega
              · exact HK.out j (by omega)⟩
            case measure => simp [intOf]; omega
      · obtain rfl : k = n := by omega
        by_cases d1 : 1048576 < nv
        · go_wp2
          go_ret
          exact ⟨false, rfl, (fun h => by cases h), rfl⟩
        · by_cases d2 : 1048576 < s + nv
          · have i2 : (1048576 : Int) < (s : Int) + (nv : Int) := by omega
            go_wp2
            go_ret
            exact ⟨false, rfl, (fun h => by cases h), rfl⟩
          · have i2 : ¬ ((1048576 : Int) < (s : Int) + (nv : Int)) := by omega
            go_wp2
            go_ret
            exact ⟨true, rfl, fun _ => HK.out, rfl⟩
set_option maxRecDepth 100000 in
set_option maxHeartbeats 2000000 in
theorem cloneS_any (zs : List ByteArray) (n : Nat) (v : Value) (hl : n ≤ 131072) (W : World) (hv : Cells.At W v (StrF zs) n) :
    Calls Tryz.prog 7 #[v] W fun e w' => (∃ v', e = .returned v' ∧ Cells.At w' v' (StrF zs) n) ∧ Below W.heap.size W w' := by
  obtain ⟨a, cap, rfl, hcc⟩ := hv
  have HC := Lib.hid hcc
  clear hcc
  have hnil := fun w a n c n' c' => Lib.run_eql_slice_nil (P := Tryz.prog) w 22 _ a n c n' c' Tryz.underlying22
  cases a with
  | none =>
    have h0 : n = 0 := by
      rcases Nat.eq_zero_or_pos n with h | h
      · exact h
      · obtain ⟨b, off, hx, _⟩ := HC.out h
        cases hx
    subst h0
    go_enter Tryz.func7, Tryz.ntmps7
    go_wp2
    go_ret
    exact ⟨⟨_, rfl, none, 0, rfl, fun h => absurd h (Nat.lt_irrefl _)⟩, Below.refl _ _⟩
  | some ad =>
    have hmk := fun w => run_make_row' (P := Tryz.prog) 22 9 (.string ByteArray.empty) 16 Tryz.underlying22 info_strI rfl .i64 .i64 n (by omega) (by omega) w
    have hS : Hid (Below W.heap.size W (W.alloc (.cells (madeCells #[.string ByteArray.empty] n) 9)) ∧ (W.alloc (.cells (madeCells #[.string ByteArray.empty] n) 9)).rowIs W.heap.size 9 n (Cells.fill (StrF zs) (.string ByteArray.empty) 0)) :=
      Lib.hid ⟨(Below.refl _ _).alloc (Nat.le_refl _) _, Cells.fill_start (World.rowIs_made W _ n _)⟩
    go_enter Tryz.func7, Tryz.ntmps7
    go_wp2
    go_loopw [4] (fun i wr => ∃ k : Nat, k ≤ n ∧ i = .int .i64 k ∧ Hid (Below W.heap.size W wr ∧ wr.rowIs W.heap.size 9 n (Cells.fill (StrF zs) (.string ByteArray.empty) k))) (fun i _ => n - (intOf i).toNat)
    case atStart => exact ⟨0, Nat.zero_le _, rfl, hS⟩
    case round =>
      obtain ⟨k, hk, rfl, HR⟩ := hrel
      by_cases hlt : k < n
      · obtain ⟨b, off, hx, hbl, hcell⟩ := HC.out (by omega)
        cases hx
        have hcx : wr.cell? ⟨b, off + k, none⟩ = some (.string (zs.getD k ByteArray.empty)) := (HR.out.1.cell (p := ⟨b, off + k, none⟩) hbl).trans (hcell k hlt)
        clear hcell
        obtain ⟨z, hz⟩ : ∃ z, zs.getD k ByteArray.empty = z := ⟨_, rfl⟩
        rw [hz] at hcx
        have HZ := Lib.hid hz
        clear hz
        have hco := Cells.fill_old HR.out.2 hlt (Nat.lt_irrefl _)
        have hfo := HR.out.2.frozen k
        go_wp2
        go_roundw
        case rel => exact ⟨k + 1, by omega, by go_num, Lib.hid ⟨HR.out.1.setCell (Nat.le_refl _) _, Cells.fill_set HR.out.2 _ (by unfold StrF; rw [HZ.out])⟩⟩
        case measure => simp [intOf]; omega
      · obtain rfl : k = n := by omega
        go_wp2
        go_ret
        exact ⟨⟨_, rfl, Cells.fill_at HR.out.2⟩, HR.out.1⟩

set_option maxRecDepth 100000 in
set_option maxHeartbeats 2000000 in
theorem cloneI_any (zs : List Int) (n : Nat) (v : Value) (hl : n ≤ 131072) (W : World) (hv : Cells.At W v (IntF zs) n) :
    Calls Tryz.prog 8 #[v] W fun e w' => (∃ v', e = .returned v' ∧ Cells.At w' v' (IntF zs) n) ∧ Below W.heap.size W w' := by
  obtain ⟨a, cap, rfl, hcc⟩ := hv
  have HC := Lib.hid hcc
  clear hcc
  have hnil := fun w a n c n' c' => Lib.run_eql_slice_nil (P := Tryz.prog) w 23 _ a n c n' c' Tryz.underlying23
  cases a with
  | none =>
    have h0 : n = 0 := by
      rcases Nat.eq_zero_or_pos n with h | h
      · exact h
      · obtain ⟨b, off, hx, _⟩ := HC.out h
        cases hx
    subst h0
    go_enter Tryz.func8, Tryz.ntmps8
    go_wp2
    go_ret
    exact ⟨⟨_, rfl, none, 0, rfl, fun h => absurd h (Nat.lt_irrefl _)⟩, Below.refl _ _⟩
  | some ad =>
    have hmk := fun w => run_make_row' (P := Tryz.prog) 23 3 (.int .i64 0) 8 Tryz.underlying23 info_intI rfl .i64 .i64 n (by omega) (by omega) w
    have hS : Hid (Below W.heap.size W (W.alloc (.cells (madeCells #[.int .i64 0] n) 3)) ∧ (W.alloc (.cells (madeCells #[.int .i64 0] n) 3)).rowIs W.heap.size 3 n (Cells.fill (IntF zs) (.int .i64 0) 0)) :=
      Lib.hid ⟨(Below.refl _ _).alloc (Nat.le_refl _) _, Cells.fill_start (World.rowIs_made W _ n _)⟩
    go_enter Tryz.func8, Tryz.ntmps8
    go_wp2
    go_loopw [4] (fun i wr => ∃ k : Nat, k ≤ n ∧ i = .int .i64 k ∧ Hid (Below W.heap.size W wr ∧ wr.rowIs W.heap.size 3 n (Cells.fill (IntF zs) (.int .i64 0) k))) (fun i _ => n - (intOf i).toNat)
    case atStart => exact ⟨0, Nat.zero_le _, rfl, hS⟩
    case round =>
      obtain ⟨k, hk, rfl, HR⟩ := hrel
      by_cases hlt : k < n
      · obtain ⟨b, off, hx, hbl, hcell⟩ := HC.out (by omega)
        cases hx
        have hcx : wr.cell? ⟨b, off + k, none⟩ = some (.int .i64 (zs.getD k 0)) := (HR.out.1.cell (p := ⟨b, off + k, none⟩) hbl).trans (hcell k hlt)
        clear hcell
        obtain ⟨z, hz⟩ : ∃ z, zs.getD k 0 = z := ⟨_, rfl⟩
        rw [hz] at hcx
        have HZ := Lib.hid hz
        clear hz
        have hco := Cells.fill_old HR.out.2 hlt (Nat.lt_irrefl _)
        have hfo := HR.out.2.frozen k
        go_wp2
        go_roundw
        case rel => exact ⟨k + 1, by omega, by go_num, Lib.hid ⟨HR.out.1.setCell (Nat.le_refl _) _, Cells.fill_set HR.out.2 _ (by unfold IntF; rw [HZ.out])⟩⟩
        case measure => simp [intOf]; omega
      · obtain rfl : k = n := by omega
        go_wp2
        go_ret
        exact ⟨⟨_, rfl, Cells.fill_at HR.out.2⟩, HR.out.1⟩

end Go.Proofs.YtngdcnljbfkneaaGreatFmt
