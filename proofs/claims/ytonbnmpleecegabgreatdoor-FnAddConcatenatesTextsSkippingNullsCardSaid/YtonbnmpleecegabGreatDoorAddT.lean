/- The walk of FnAddConcatenatesTextsSkippingNulls. -/
import Derived.Test.YtonbnmpleecegabGreatDoorAddTC
import Derived.Test.YtonbnmpleecegabGreatDoorOwn
namespace Go.Proofs.YtonbnmpleecegabGreatDoor
open Go.RowKit Go.Deep

def szAt (ss : List ByteArray) (j : Nat) : Nat := (ss.getD j ByteArray.empty).size
def TextCells (ss : List ByteArray) (n : Nat) (a : Option Addr) (w : World) : Prop :=
  0 < n → ∃ b off, a = some ⟨b, off, none⟩ ∧ b < w.heap.size ∧ ∀ i, i < n → w.cell? ⟨b, off + i, none⟩ = some (.string (ss.getD i ByteArray.empty))
def BytesT (ss : List ByteArray) (n m : Nat) (W : World) (e : Ending) (w' : World) : Prop :=
  ∃ b, e = .returned (.bool b) ∧ (b = true → n ≤ 1048576 ∧ m ≤ 1048576 ∧ ∀ j, j < n → szAt ss j ≤ 1048576) ∧ W = w'
set_option maxRecDepth 100000 in
set_option maxHeartbeats 2000000 in
theorem zzbT (ss : List ByteArray) (n m : Nat) (a a2 : Option Addr) (cap cap2 : Nat) (W : World) (hv : TextCells ss n a W) (hmx : ∀ j, j < n → szAt ss j ≤ maxLen) :
    Calls Tryz.prog 8 #[.slice a n cap, .slice a2 m cap2] W (BytesT ss n m W) := by
  have HC := Lib.hid hv
  have HMX := Lib.hid hmx
  clear hv hmx
  by_cases c : 1048576 < n
  · go_enter Tryz.func8, Tryz.ntmps8
    go_wp2
    go_ret
    exact ⟨false, rfl, (fun h => by cases h), rfl⟩
  · have hm : n ≤ 1048576 := by omega
    go_enter Tryz.func8, Tryz.ntmps8
    go_wp2
    go_loop [5, 6] (fun t i => ∃ k s : Nat, k ≤ n ∧ s ≤ 1048576 ∧ t = .int .i64 s ∧ i = .int .i64 k ∧ Hid (∀ j, j < k → szAt ss j ≤ 1048576)) (fun _ i => n - (intOf i).toNat)
    case atStart => exact ⟨0, n, Nat.zero_le _, hm, rfl, rfl, Lib.hid fun j hj => absurd hj (Nat.not_lt_zero _)⟩
    case round =>
      obtain ⟨k, s, hk, hs, rfl, rfl, HK⟩ := hrel
      by_cases hlt : k < n
      · obtain ⟨b, off, hx, hbl, hcell⟩ := HC.out (by omega)
        cases hx
        have hcx := hcell k hlt
        obtain ⟨x, hxx⟩ : ∃ x, ss.getD k ByteArray.empty = x := ⟨_, rfl⟩
        rw [hxx] at hcx
        have hml : x.size ≤ maxLen := by have := HMX.out k hlt; unfold szAt at this; rw [hxx] at this; exact this
        have HM : Hid (szAt ss k = x.size) := Lib.hid (by unfold szAt; rw [hxx])
        clear hcell hxx
        obtain ⟨m', hm2⟩ : ∃ m', x.size = m' := ⟨_, rfl⟩
        rw [hm2] at hml HM
        unfold maxLen at hml
        by_cases c1 : 1048576 < m'
        · go_wp2
          go_ret
          exact ⟨false, rfl, (fun h => by cases h), rfl⟩
        · by_cases c2 : 1048576 < s + m'
          · have i2 : (1048576 : Int) < (s : Int) + (m' : Int) := by omega
            go_wp2
            go_ret
            exact ⟨false, rfl, (fun h => by cases h), rfl⟩
          · have i2 : ¬ ((1048576 : Int) < (s : Int) + (m' : Int)) := by omega
            go_wp2
            go_round
            case rel => exact ⟨k + 1, s + m', by omega, by omega, by go_num, by go_num, Lib.hid fun j hj => by
              by_cases e : j = k
              · rw [e, HM.out]; omega
              · exact HK.out j (by omega)⟩
            case measure => simp [intOf]; omega
      · obtain rfl : k = n := by omega
        by_cases c1 : 1048576 < m
        · go_wp2
          go_ret
          exact ⟨false, rfl, (fun h => by cases h), rfl⟩
        · by_cases c2 : 1048576 < s + m
          · have i2 : (1048576 : Int) < (s : Int) + (m : Int) := by omega
            go_wp2
            go_ret
            exact ⟨false, rfl, (fun h => by cases h), rfl⟩
          · have i2 : ¬ ((1048576 : Int) < (s : Int) + (m : Int)) := by omega
            go_wp2
            go_ret
            exact ⟨true, rfl, fun _ => ⟨hm, by omega, HK.out⟩, rfl⟩
theorem info_u8t : (Tryz.prog.info? 5).map (fun i => (i.zero, i.size, i.bytes)) = some (some (.int .u8 0), 1, 1) := by kernel_rfl
theorem txt_x_null (ss : List ByteArray) (bs : List Bool) (h : Sizes ss) (j : Nat) (hb : bs.getD j false = true) : (txtOf ss bs h j).x = none ∧ (txtOf ss bs h j).bytes = [] := by
  unfold Txt.bytes txtOf
  simp only [hb, if_true, and_self]
theorem txt_x_some (ss : List ByteArray) (bs : List Bool) (h : Sizes ss) (j : Nat) (hb : bs.getD j false = false) : (txtOf ss bs h j).x = some (ss.getD j ByteArray.empty) ∧ (txtOf ss bs h j).bytes = (ss.getD j ByteArray.empty).data.toList := by
  unfold Txt.bytes txtOf
  simp only [hb, Bool.false_eq_true, if_false, and_self]
def accS (T : Nat → Txt) (k : Nat) : List UInt8 := accB (upto T k)
theorem accS_succ (T : Nat → Txt) (k : Nat) : accS T (k + 1) = accS T k ++ (T k).bytes := by unfold accS; rw [upto_succ, accB_snoc]
theorem someS_succ (T : Nat → Txt) (k : Nat) : someB (upto T (k + 1)) = (someB (upto T k) || (T k).x.isSome) := by rw [upto_succ, someB_snoc]
set_option maxRecDepth 100000 in
set_option maxHeartbeats 16000000 in
theorem walk_FnAddConcatenatesTextsSkippingNulls (W : World) (v1 : Value) (ss : List ByteArray) (hv1 : Cells.At W v1 (StrF ss) ss.length) (hmx : ∀ s ∈ ss, s.size ≤ maxLen) (v2 : Value) (bs : List Bool) (hv2 : Cells.At W v2 (BoolF bs) bs.length) (_h2 : ∀ b ∈ bs, True) :
    Calls Tryz.prog 4 #[v1, v2] W fun e w' => e = .returned (.bool true) ∧ Below W.heap.size W w' := by
  obtain ⟨n, hn⟩ : ∃ n, ss.length = n := ⟨_, rfl⟩
  obtain ⟨m, hm⟩ : ∃ m, bs.length = m := ⟨_, rfl⟩
  rw [hn] at hv1
  rw [hm] at hv2
  have HN := Lib.hid hn
  have HM := Lib.hid hm
  have HV1 := Lib.hid hv1
  have HV2 := Lib.hid hv2
  have HMX : Hid (∀ j, j < n → szAt ss j ≤ maxLen) := Lib.hid fun j hj => by
    unfold szAt
    rw [List.getD_eq_getElem?_getD, List.getElem?_eq_getElem (by omega)]
    exact hmx _ (List.getElem_mem _)
  obtain ⟨a, cap, rfl, hcc⟩ := hv1
  obtain ⟨a2, cap2, rfl, _⟩ := hv2
  have HC : Hid (TextCells ss n a W) := Lib.hid hcc
  clear hcc hn hm hmx _h2
  go_enter Tryz.func4, Tryz.ntmps4
  go_wp2_with fail
  refine (zzbT ss n m a a2 cap cap2 _ HC.out HMX.out).mono ?_
  rintro e w' ⟨b, rfl, hb, rfl⟩
  cases b with
  | false =>
    go_wp2
    go_ret
    exact ⟨rfl, Below.refl _ _⟩
  | true =>
    obtain ⟨hm, hmm, hlen⟩ := hb rfl
    have HL := Lib.hid hlen
    clear hlen hb
    by_cases c2 : 65536 < n
    · go_wp2
      go_ret
      exact ⟨rfl, Below.refl _ _⟩
    by_cases c3 : 65536 < m
    · go_wp2
      go_ret
      exact ⟨rfl, Below.refl _ _⟩
    go_wp2
    go_loop [5, 6] (fun t i => ∃ k s : Nat, k ≤ n ∧ s ≤ 1048576 ∧ t = .int .i64 s ∧ i = .int .i64 k) (fun _ i => n - (intOf i).toNat)
    case atStart => exact ⟨0, m, Nat.zero_le _, by omega, rfl, rfl⟩
    case round =>
      obtain ⟨k, s, hk, hs, rfl, rfl⟩ := hrel
      by_cases hlt : k < n
      · obtain ⟨b, off, hx, hbl, hcell⟩ := HC.out (by omega)
        cases hx
        have hcx := hcell k hlt
        obtain ⟨x, hxx⟩ : ∃ x, ss.getD k ByteArray.empty = x := ⟨_, rfl⟩
        have hml := HL.out k hlt
        unfold szAt at hml
        rw [hxx] at hcx hml
        clear hcell hxx
        obtain ⟨m', hm2⟩ : ∃ m', x.size = m' := ⟨_, rfl⟩
        rw [hm2] at hml
        by_cases c4 : 1048576 < s + (m' + 16)
        · have i4 : (1048576 : Int) < (s : Int) + ((m' : Int) + 16) := by omega
          go_wp2
          go_ret
          exact ⟨rfl, Below.refl _ _⟩
        · have i4 : ¬ ((1048576 : Int) < (s : Int) + ((m' : Int) + 16)) := by omega
          go_wp2
          go_round
          case rel => exact ⟨k + 1, s + (m' + 16), by omega, by omega, by go_num, by go_num⟩
          case measure => simp [intOf]; omega
      · obtain rfl : k = n := by omega
        have hsz : Sizes ss := fun j => by
          by_cases hj : j < k
          · exact HL.out j hj
          · rw [List.getD_eq_getElem?_getD, List.getElem?_eq_none (by rw [HN.out]; omega)]
            exact Nat.zero_le _
        have HSZ := Lib.hid hsz
        clear hs hsz
        go_wp2_with fail
        refine (cloneS_any ss k _ (by omega) _ HV1.out).mono ?_
        rintro e w0 ⟨⟨v0, rfl, hv0⟩, hb0⟩
        have HV0 := Lib.hid hv0.at
        have HB0 := Lib.hid hb0
        have HV2a := Lib.hid (HV2.out.later hb0)
        obtain ⟨a0, cap0, rfl, _⟩ := hv0
        clear hb0
        go_wp2_with fail
        refine (cloneB_any bs m _ (by omega) _ HV2a.out).mono ?_
        rintro e w1 ⟨⟨v3, rfl, hv3⟩, hb1⟩
        have HV3 := Lib.hid hv3.at
        have HV1b := Lib.hid (HV0.out.later hb1)
        have HB1 := Lib.hid (HB0.out.trans (hb1.mono HB0.out.size))
        obtain ⟨a3, cap3, rfl, _⟩ := hv3
        clear hb1
        obtain ⟨T, hT⟩ : ∃ T, txtOf ss bs HSZ.out = T := ⟨_, rfl⟩
        have HT := Lib.hid hT
        clear hT
        go_wp2
        go_loopw [7, 8, 9] (fun v sb i wr => ∃ q : Nat, q ≤ k ∧ i = .int .i64 q ∧ sb = .bool (someB (upto T q)) ∧ Hid (Own.Buf 5 w1.heap.size w1 wr v (accS T q))) (fun _ _ i _ => k - (intOf i).toNat)
        case atStart => exact ⟨0, Nat.zero_le _, rfl, rfl, Lib.hid (Own.Buf.nil (Below.refl _ _) (Nat.le_refl _))⟩
        case round =>
          obtain ⟨q, hq, rfl, rfl, HB⟩ := hrel
          have hal : (accS T q).length ≤ 65536 * 1048576 := Nat.le_trans (accB_len _) (Nat.mul_le_mul (by rw [upto_length]; omega) (Nat.le_refl _))
          by_cases hlt : q < k
          · obtain ⟨_, _, hv9, hc9⟩ := HV1b.out
            cases hv9
            obtain ⟨b, off, hx, hbl, hcell⟩ := hc9 (by omega)
            cases hx
            have hcx0 : wr.cell? ⟨b, off + q, none⟩ = some (StrF ss q) := (HB.out.below.cell (p := ⟨b, off + q, none⟩) hbl).trans (hcell q hlt)
            obtain ⟨x, hxx⟩ : ∃ x, ss.getD q ByteArray.empty = x := ⟨_, rfl⟩
            have hml := HL.out q hlt
            unfold szAt at hml
            rw [hxx] at hml
            have hcx : wr.cell? ⟨b, off + q, none⟩ = some (.string x) := by rw [hcx0, ← hxx]; rfl
            obtain ⟨z, hz⟩ : ∃ z, bs.getD q false = z := ⟨_, rfl⟩
            have HNULL : Hid (z = true → someB (upto T (q + 1)) = someB (upto T q) ∧ accS T (q + 1) = accS T q) := Lib.hid fun h => by
              obtain ⟨e1, e2⟩ := txt_x_null ss bs HSZ.out q (by rw [hz, h])
              rw [HT.out] at e1 e2
              rw [someS_succ, accS_succ, e1, e2]
              exact ⟨by simp, by simp⟩
            have HSOME : Hid (z = false → someB (upto T (q + 1)) = true ∧ accS T (q + 1) = accS T q ++ x.data.toList) := Lib.hid fun h => by
              obtain ⟨e1, e2⟩ := txt_x_some ss bs HSZ.out q (by rw [hz, h])
              rw [HT.out] at e1 e2
              rw [someS_succ, accS_succ, e1, e2, hxx]
              exact ⟨by simp, rfl⟩
            have hxl : x.data.toList.length = x.size := rfl
            by_cases hkm : q < m
            · obtain ⟨_, _, hv8, hc8⟩ := HV3.out
              cases hv8
              obtain ⟨b2, off2, hx2, hbl2, hcell2⟩ := hc8 (by omega)
              cases hx2
              have hcb0 : wr.cell? ⟨b2, off2 + q, none⟩ = some (BoolF bs q) := (HB.out.below.cell (p := ⟨b2, off2 + q, none⟩) hbl2).trans (hcell2 q hkm)
              have hcb : wr.cell? ⟨b2, off2 + q, none⟩ = some (.bool z) := by rw [hcb0, ← hz]; rfl
              clear hcell hcx0 hcell2 hcb0 hxx hz hc9 hc8
              cases z with
              | true =>
                go_wp2
                go_roundw
                case rel => exact ⟨q + 1, by omega, by go_num, by rw [(HNULL.out rfl).1], Lib.hid (by rw [(HNULL.out rfl).2]; exact HB.out)⟩
                case measure => simp [intOf]; omega
              | false =>
                go_wp2_with (at_builtin; refine Own.wpList_buf_str rfl _ _ 35 9 rfl 5 Tryz.underlying35 Tryz.underlying9 info_u8t w1.heap.size w1 _ _ rfl HB.out x x.data.toList rfl rfl (by omega) ?_; intro v' w' hb')
                go_wp2
                go_roundw
                case rel => exact ⟨q + 1, by omega, by go_num, by rw [(HSOME.out rfl).1], Lib.hid (by rw [(HSOME.out rfl).2]; exact hb')⟩
                case measure => simp [intOf]; omega
            · have hzf : z = false := by rw [← hz, List.getD_eq_getElem?_getD, List.getElem?_eq_none (by rw [HM.out]; omega)]; rfl
              clear hcell hcx0 hxx hz hc9
              subst hzf
              go_wp2_with (at_builtin; refine Own.wpList_buf_str rfl _ _ 35 9 rfl 5 Tryz.underlying35 Tryz.underlying9 info_u8t w1.heap.size w1 _ _ rfl HB.out x x.data.toList rfl rfl (by omega) ?_; intro v' w' hb')
              go_wp2
              go_roundw
              case rel => exact ⟨q + 1, by omega, by go_num, by rw [(HSOME.out rfl).1], Lib.hid (by rw [(HSOME.out rfl).2]; exact hb')⟩
              case measure => simp [intOf]; omega
          · obtain rfl : q = k := by omega
            have hzz := zzadd_txt ss bs HSZ.out q m (by omega) (by omega) HM.out _ _ wr (HV1b.out.later HB.out.below) (HV3.out.later HB.out.below)
            rw [HT.out] at hzz
            have HZZ := Lib.hid hzz
            clear hzz
            go_wp2_with fail
            refine HZZ.out.mono ?_
            rintro e w2 ⟨hout, hb2⟩
            have HBW := Lib.hid (HB1.out.trans ((HB.out.below.mono HB1.out.size).trans (hb2.mono (Nat.le_trans HB1.out.size HB.out.below.size))))
            have HBL := Lib.hid (HB.out.later hb2)
            clear hb2
            rcases hout with ⟨h0, rfl⟩ | ⟨h0, rfl⟩
            · rw [h0]
              go_wp2
              go_ret
              exact ⟨rfl, HBW.out.alloc HBW.out.size _⟩
            · rw [h0]
              obtain ⟨t, ht⟩ : ∃ t : ByteArray, ⟨(accS T q).toArray⟩ = t := ⟨_, rfl⟩
              have hcv := Own.own_text (P := Tryz.prog) 35 9 5 Tryz.underlying35 Tryz.underlying5 Tryz.underlying9 (HBL.out.alloc (.cells #[.int .i64 5, .bool false, .int .i64 0, .float .f64 0, .string t, .slice none 0 0, .bool false] 28)).row
              rw [ht] at hcv
              rw [show (⟨(accB (upto T q)).toArray⟩ : ByteArray) = t from ht]
              clear ht
              go_wp2
              go_ret
              exact ⟨rfl, HBW.out.alloc HBW.out.size _⟩
end Go.Proofs.YtonbnmpleecegabGreatDoor
