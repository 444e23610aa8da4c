/- The walk of FnEncodeObjectSpec. -/
import Derived.Test.YtngdcnljbfkneaaGreatFmtObjE
import Derived.Test.YtngdcnljbfkneaaGreatFmtModQ
import Derived.Test.YtngdcnljbfkneaaGreatFmtItoaB
namespace Go.Proofs.YtngdcnljbfkneaaGreatFmt
open Go.RowKit Go.Deep Go.Lib Go.Sort Go.ObjP

theorem KVRows.swap {B1 B2 cap L m p : Nat} {g : Nat → KV} {w : World} (h : KVRows B1 B2 cap L g w) (hm : m < L) (hp : m = p + 1) (hne : B1 ≠ B2) :
    KVRows B1 B2 cap L (sw m g) ((((w.setCell ⟨B1, m, none⟩ (encStr (g p).1)).setCell ⟨B1, p, none⟩ (encStr (g m).1)).setCell ⟨B2, m, none⟩ (.int .i64 (g p).2)).setCell ⟨B2, p, none⟩ (.int .i64 (g m).2)) := by
  subst hp
  refine ⟨?_, ?_⟩
  · refine ((((h.rk.set _ _).set _ _).setOther (a := ⟨B2, p + 1, none⟩) hne _).setOther (a := ⟨B2, p, none⟩) hne _).congr fun j _ => ?_
    simp only [Cells.fill, sw, Nat.add_sub_cancel]
    by_cases c1 : j = p
    · rw [if_pos c1, if_pos (by omega), if_neg (by omega), if_pos (by omega)]
    · rw [if_neg c1]
      by_cases c2 : j = p + 1
      · rw [if_pos c2, if_pos (by omega), if_pos c2]
      · rw [if_neg c2]
        by_cases c3 : j < L
        · rw [if_pos c3, if_pos c3, if_neg c2, if_neg (by omega)]
        · rw [if_neg c3, if_neg c3]
  · refine ((((h.rv.setOther (a := ⟨B1, p + 1, none⟩) hne.symm _).setOther (a := ⟨B1, p, none⟩) hne.symm _).set _ _).set _ _).congr fun j _ => ?_
    simp only [Cells.fill, sw, Nat.add_sub_cancel]
    by_cases c1 : j = p
    · rw [if_pos c1, if_pos (by omega), if_neg (by omega), if_pos (by omega)]
    · rw [if_neg c1]
      by_cases c2 : j = p + 1
      · rw [if_pos c2, if_pos (by omega), if_pos c2]
      · rw [if_neg c2]
        by_cases c3 : j < L
        · rw [if_pos c3, if_pos c3, if_neg c2, if_neg (by omega)]
        · rw [if_neg c3, if_neg c3]
theorem KVRows.drew {B1 B2 cap L : Nat} {g : Nat → KV} {w : World} (h : KVRows B1 B2 cap L g w) (q : Nat) : KVRows B1 B2 cap L g (w.drewN q) := ⟨h.rk, h.rv⟩
theorem range_getD (L : Nat) (g : Nat → KV) (k : Nat) (h : k < L) : ((List.range L).map g)[k]? = some (g k) := by simp [h]
theorem glue_ent (L : Nat) (g : Nat → KV) (k : Nat) (h : k < L) : Esc.glue (((List.range L).map g).map ent) [44] (k + 1) = (Esc.glue (((List.range L).map g).map ent) [44] k ++ (if k = 0 then [] else [44])) ++ (Quo.quote (g k).1 ++ (58 :: Lib.itoa (g k).2)) := by
  show Esc.glue (((List.range L).map g).map ent) [44] k ++ ((if k = 0 then [] else [44]) ++ (((List.range L).map g).map ent).getD k []) = _
  rw [List.getD_eq_getElem?_getD, List.getElem?_map, range_getD L g k h, List.append_assoc]
  rfl
theorem glue_len_ent (L : Nat) (g : Nat → KV) (hg : ∀ k, k < L → (g k).1.length ≤ 1048576 ∧ In64 (g k).2) : ∀ k, k ≤ L → (Esc.glue (((List.range L).map g).map ent) [44] k).length ≤ 7000001 * k
  | 0, _ => Nat.zero_le _
  | k + 1, h => by
    have h1 := glue_len_ent L g hg k (by omega)
    have h2 := ent_len (hg k (by omega)).1 (hg k (by omega)).2
    rw [glue_ent L g k (by omega), List.length_append, List.length_append]
    have h3 : (if k = 0 then ([] : List UInt8) else [44]).length ≤ 1 := by split <;> simp
    have h4 : (Quo.quote (g k).1 ++ (58 :: Lib.itoa (g k).2)).length = (ent (g k)).length := rfl
    rw [h4]
    omega

set_option maxRecDepth 100000 in
set_option maxHeartbeats 16000000 in
theorem walk_FnEncodeObjectSpec (W : World) (v : Value) (zs : List ByteArray) (hv : Cells.At W v (StrF zs) zs.length) (hz : ∀ s ∈ zs, s.size ≤ maxLen) (u : Value) (vs : List Int) (hu : IntArg W u vs) (hw : ∀ n ∈ vs, (Lit.int .i64 n).wf = true)
    (hdr : DrBelow W.heap.size W) (htab : Lib.TabIs Tryz.prog W "internal/strconv.uint64pow10" .u64 Lib.pow10Tab) :
    Calls Tryz.prog 4 #[v, u] W fun e w' => e = .returned (.bool true) ∧ Below W.heap.size W w' := by
  have hu := at_intArg hu
  obtain ⟨nk, hnk⟩ : ∃ n, zs.length = n := ⟨_, rfl⟩
  obtain ⟨nv, hnv⟩ : ∃ n, vs.length = n := ⟨_, rfl⟩
  rw [hnk] at hv
  rw [hnv] at hu
  have HDR := Lib.hid hdr
  have HTAB := Lib.hid (Lib.tabBelow_of_tabIs htab)
  have HVS : Hid (∀ i, In64 (vs.getD i 0)) := Lib.hid (getD_in64 hw)
  have HMX : Hid (∀ j, j < nk → szAt zs j ≤ maxLen) := Lib.hid fun j hj => by
    unfold szAt
    rw [List.getD_eq_getElem?_getD, List.getElem?_eq_getElem (by omega)]
    exact hz _ (List.getElem_mem _)
  have HNK := Lib.hid hnk
  clear hdr htab hz hw hnv
  have HV := Lib.hid hv
  have HU := Lib.hid hu
  obtain ⟨a, cap, rfl, hcc⟩ := hv
  obtain ⟨av, capv, rfl, _⟩ := hu
  have HC : Hid (TextCells zs nk a W) := Lib.hid hcc
  clear hcc hnk
  go_enter Tryz.func4, Tryz.ntmps4
  go_wp2_with fail
  refine (zzbP zs nk a av cap nv capv _ HC.out HMX.out).mono ?_
  rintro e w' ⟨b, rfl, hb, rfl⟩
  cases b with
  | false =>
    go_wp2
    go_ret
    exact ⟨rfl, Below.refl _ _⟩
  | true =>
    have HLN := Lib.hid (hb rfl)
    clear hb
    by_cases c2 : 4096 < nk
    · go_wp2
      go_ret
      exact ⟨rfl, Below.refl _ _⟩
    by_cases c3 : 4096 < nv
    · go_wp2
      go_ret
      exact ⟨rfl, Below.refl _ _⟩
    have HZS : Hid (Sizes zs) := Lib.hid fun j => by
      by_cases hj : j < nk
      · exact HLN.out j hj
      · rw [List.getD_eq_getElem?_getD, List.getElem?_eq_none (by rw [HNK.out]; omega)]
        exact Nat.zero_le _
    have HK := Lib.hid (kvBytes_any zs nk nv a av cap capv HZS.out (by omega) (by omega) W HC.out)
    obtain ⟨K, hK⟩ : ∃ K : Nat, kvTot zs nk nv nk = K := ⟨_, rfl⟩
    rw [hK] at HK
    clear hK
    by_cases c4 : 1048576 < K
    · go_wp2_with (go_at_call 6; refine HK.out.mono ?_; rintro e w' ⟨rfl, rfl⟩)
      go_ret
      exact ⟨rfl, Below.refl _ _⟩
    go_wp2_with (go_at_call 6; refine HK.out.mono ?_; rintro e w' ⟨rfl, rfl⟩)
    refine (cloneS_any zs nk _ (by omega) _ HV.out).mono ?_
    rintro e w1 ⟨⟨v1, rfl, hv1⟩, hb1⟩
    have HV1 := Lib.hid hv1
    have HB1 := Lib.hid hb1
    have HU1 := Lib.hid (HU.out.later hb1)
    clear hb1
    obtain ⟨a1, cap1, rfl, _⟩ := hv1
    go_wp2_with fail
    refine (cloneI_any vs nv _ (by omega) _ HU1.out).mono ?_
    rintro e w2 ⟨⟨u2, rfl, hu2⟩, hb2⟩
    have HV2 := Lib.hid (HV1.out.later hb2)
    have HU2 := Lib.hid hu2
    have HB2 := Lib.hid (HB1.out.trans (hb2.mono HB1.out.size))
    clear hb2
    obtain ⟨a2, cap2, rfl, _⟩ := hu2
    have HEXL : Hid (∀ n, n ≤ nk → n ≤ nv → n ≤ 4096 → ∀ l, IsObj (lastv (kzOf zs) (vzOf vs) n) l → ∀ w, Below w2.heap.size w2 w → Calls Tryz.prog 10 #[.slice a1 nk cap1, .slice a2 nv cap2, .int .i64 (n : Nat)] w fun e w' => e = .returned (.string (objB l)) ∧ Below w.heap.size w w') := Lib.hid (by
      intro n h1 h2 h3 l hl w hb
      exact zzPairs_any zs vs nk nv n h1 h2 HZS.out HVS.out h3 _ _ W.heap.size w (Nat.le_trans HB2.out.size hb.size) (HDR.out.on (HB2.out.trans (hb.mono HB2.out.size))) (HTAB.out.on (HB2.out.trans (hb.mono HB2.out.size))) (HV2.out.later hb) (HU2.out.later hb) l hl)
    by_cases hmin : nv < nk
    · have HLP := Lib.hid (lastPairs_any zs vs nk nv nv (by omega) (by omega) (by omega) _ _ w2 HV2.out HU2.out)
      have HTS : Hid (∀ p ∈ told (kzOf zs) (vzOf vs) nv nv, p.1.length ≤ 1048576 ∧ In64 p.2) := Lib.hid fun p hp => lastv_in64 HZS.out HVS.out ((told_mem _ _ nv p).1 hp)
      have HTM := Lib.hid (told_mem (kzOf zs) (vzOf vs) nv)
      have HND := Lib.hid (told_is (kzOf zs) (vzOf vs) nv nv (Nat.le_refl _)).nd
      have HTL := Lib.hid (told_len (kzOf zs) (vzOf vs) nv nv)
      obtain ⟨tl, htl⟩ : ∃ tl, told (kzOf zs) (vzOf vs) nv nv = tl := ⟨_, rfl⟩
      rw [htl] at HLP HTS HTL
      have HTM2 : Hid (∀ p, p ∈ tl ↔ lastv (kzOf zs) (vzOf vs) nv p.1 = some p.2) := Lib.hid (htl ▸ HTM.out)
      have HND2 : Hid ((tl.map Prod.fst).Nodup) := Lib.hid (htl ▸ HND.out)
      clear htl HTM HND
      have HM0 : Hid (Mem tl.length tl (gOf tl)) := Lib.hid (mem_of_list tl HND2.out (gOf tl) fun i hi => by unfold gOf; rw [List.getD_eq_getElem?_getD, List.getElem?_eq_getElem hi]; rfl)
      obtain ⟨L, hL⟩ : ∃ L, tl.length = L := ⟨_, rfl⟩
      rw [hL] at HLP HTL HM0
      have HLL := Lib.hid hL
      clear hL
      obtain ⟨U, hU⟩ : ∃ U, w2.heap.size = U := ⟨_, rfl⟩
      rw [hU] at HLP
      have HUU := Lib.hid hU
      clear hU
      have HL4 : Hid (L ≤ 4096) := Lib.hid (Nat.le_trans HTL.out (by omega))
      have hl4 : L ≤ 4096 := HL4.out
      have hUne : ¬ U = U + 1 := by omega
      have hUne2 : ¬ U + 1 = U := by omega
      go_wp2_with fail
      refine HLP.out.mono ?_
      rintro e w3 ⟨rfl, hk3, hb3⟩
      have HS0 : Hid (∃ g, KVRows U (U + 1) nv L g w3 ∧ Mem L tl g ∧ Ord 1 g ∧ Below U w2 w3) := Lib.hid ⟨_, hk3, HM0.out, fun a b h1 h2 => absurd h1 (by omega), hb3⟩
      clear hk3 hb3 HLP
      go_wp2
      go_loopw [9] (fun v9 wr => ∃ t : Nat, 1 ≤ t ∧ (t ≤ L ∨ t = 1) ∧ v9 = .int .i64 t ∧ Hid (∃ g, KVRows U (U + 1) nv L g wr ∧ Mem L tl g ∧ Ord t g ∧ Below U w2 wr)) (fun v9 _ => L - (intOf v9).toNat)
      case atStart => exact ⟨1, Nat.le_refl _, Or.inr rfl, rfl, HS0⟩
      case round =>
        obtain ⟨t, ht1, htL, rfl, HR⟩ := hrel
        by_cases hlt : t < L
        · have HI0 : Hid (∃ g, KVRows U (U + 1) nv L g wr ∧ Mem L tl g ∧ Hole t t g ∧ Below U w2 wr) := by
            obtain ⟨g, h1, h2, h3, h4⟩ := HR.out
            exact Lib.hid ⟨g, h1, h2, h3.hole, h4⟩
          clear HR
          go_wp2
          go_loopw [10] (fun v10 ws => ∃ m : Nat, m ≤ t ∧ v10 = .int .i64 m ∧ Hid (∃ g, KVRows U (U + 1) nv L g ws ∧ Mem L tl g ∧ Hole t m g ∧ Below U w2 ws)) (fun v10 _ => (intOf v10).toNat)
          case atStart => exact ⟨t, Nat.le_refl _, rfl, HI0⟩
          case round =>
            obtain ⟨m, hm, rfl, HJ⟩ := hrel
            obtain ⟨g, hg⟩ := HJ.out
            have HG := Lib.hid hg
            clear hg HJ
            by_cases hm0 : m = 0
            · subst hm0
              have HE : Hid (∃ g, KVRows U (U + 1) nv L g wr ∧ Mem L tl g ∧ Ord (t + 1) g ∧ Below U w2 wr) := Lib.hid ⟨g, HG.out.1, HG.out.2.1, HG.out.2.2.1.done HG.out.2.1 hlt (Nat.zero_le _) (Or.inl rfl), HG.out.2.2.2⟩
              go_wp2
              go_quiet (fail)
              go_wp2
              go_roundw
              case rel => exact ⟨t + 1, by omega, Or.inl (by omega), by go_num, by
                obtain ⟨g, h1, h2, h3, h4⟩ := HE.out
                exact Lib.hid ⟨g, h1.drew _, h2, h3, h4.trans (below_drewN _ _ _)⟩⟩
              case measure => simp [intOf]; omega
            · obtain ⟨p, hp⟩ : ∃ p, m = p + 1 := ⟨m - 1, by omega⟩
              have hJ : (m : Int) - 1 = (p : Int) := by omega
              have HMP := Lib.hid hp
              have hpL : p < L := by omega
              have hmL : m < L := by omega
              have hmp : 0 < m := by omega
              have hpm : ¬ m = p := by omega
              have hpm2 : ¬ p = m := by omega
              have hLN : L ≤ nv := HTL.out
              have c1 : wr.cell? ⟨U, m, none⟩ = some (encStr (g m).1) := Cells.fill_cell HG.out.1.rk (by omega) hmL
              have c0 : wr.cell? ⟨U, p, none⟩ = some (encStr (g p).1) := Cells.fill_cell HG.out.1.rk (by omega) hpL
              have d1 : wr.cell? ⟨U + 1, m, none⟩ = some (.int .i64 (g m).2) := Cells.fill_cell HG.out.1.rv (by omega) hmL
              have d0 : wr.cell? ⟨U + 1, p, none⟩ = some (.int .i64 (g p).2) := Cells.fill_cell HG.out.1.rv (by omega) hpL
              have f1 := HG.out.1.rk.frozen m
              have f0 := HG.out.1.rk.frozen p
              have f3 := HG.out.1.rv.frozen m
              have f2 := HG.out.1.rv.frozen p
              have hsz : ∀ k, k < L → (g k).1.length ≤ 1048576 := fun k hk => (HTS.out (g k) ((HG.out.2.1.mem _).2 ⟨k, hk, rfl⟩)).1
              have HLS : Hid (∀ w, Calls Tryz.prog 13 #[encStr (g m).1, encStr (g p).1] w fun e w' => e = .returned (.bool (decide ((g m).1 < (g p).1))) ∧ ∃ q, w' = w.drewN q) := Lib.hid fun w => lessB2_any ⟨(g m).1.toArray⟩ ⟨(g p).1.toArray⟩ (hsz m hmL) (hsz p hpL) w
              clear hsz hp
              by_cases hls : (g m).1 < (g p).1
              · have HSW : Hid (∀ q, ∃ g', KVRows U (U + 1) nv L g' (((((wr.drewN q).setCell ⟨U, m, none⟩ (encStr (g p).1)).setCell ⟨U, p, none⟩ (encStr (g m).1)).setCell ⟨U + 1, m, none⟩ (.int .i64 (g p).2)).setCell ⟨U + 1, p, none⟩ (.int .i64 (g m).2)) ∧ Mem L tl g' ∧ Hole t p g' ∧
                    Below U w2 (((((wr.drewN q).setCell ⟨U, m, none⟩ (encStr (g p).1)).setCell ⟨U, p, none⟩ (encStr (g m).1)).setCell ⟨U + 1, m, none⟩ (.int .i64 (g p).2)).setCell ⟨U + 1, p, none⟩ (.int .i64 (g m).2))) := Lib.hid fun q => by
                  have hpe : p = m - 1 := by have := HMP.out; omega
                  refine ⟨_, (HG.out.1.drew q).swap hmL HMP.out (by omega), HG.out.2.1.sw hmL hmp, ?_, ?_⟩
                  · rw [hpe]; exact HG.out.2.2.1.sw hm hmp (by rw [← hpe]; exact hls)
                  · exact ((((HG.out.2.2.2.trans (below_drewN _ _ _)).setCell (Nat.le_refl _) _).setCell (Nat.le_refl _) _).setCell (Nat.le_succ _) _).setCell (Nat.le_succ _) _
                have hdec : decide ((g m).1 < (g p).1) = true := decide_eq_true hls
                rw [hdec] at HLS
                obtain ⟨s1, hs1⟩ : ∃ s, (⟨(g m).1.toArray⟩ : ByteArray) = s := ⟨_, rfl⟩
                obtain ⟨s0, hs0⟩ : ∃ s, (⟨(g p).1.toArray⟩ : ByteArray) = s := ⟨_, rfl⟩
                obtain ⟨y1, hy1⟩ : ∃ s, (g m).2 = s := ⟨_, rfl⟩
                obtain ⟨y0, hy0⟩ : ∃ s, (g p).2 = s := ⟨_, rfl⟩
                unfold encStr at c1 c0 HLS HSW
                rw [hs1] at c1 HLS HSW
                rw [hs0] at c0 HLS HSW
                rw [hy1] at d1 HSW
                rw [hy0] at d0 HSW
                clear hs1 hs0 hy1 hy0 hls hdec HG
                go_wp2
                go_quiet (refine Calls.quiet_of (HLS.out _))
                go_wp2
                go_roundw
                case rel => exact ⟨p, by omega, by go_num, Lib.hid (HSW.out _)⟩
                case measure => simp [intOf]; omega
              · have HE : Hid (∃ g, KVRows U (U + 1) nv L g wr ∧ Mem L tl g ∧ Ord (t + 1) g ∧ Below U w2 wr) := Lib.hid ⟨g, HG.out.1, HG.out.2.1, HG.out.2.2.1.done HG.out.2.1 hlt hm (Or.inr (by rw [show m - 1 = p from by have := HMP.out; omega]; exact hls)), HG.out.2.2.2⟩
                have hdec : decide ((g m).1 < (g p).1) = false := decide_eq_false hls
                rw [hdec] at HLS
                obtain ⟨s1, hs1⟩ : ∃ s, (⟨(g m).1.toArray⟩ : ByteArray) = s := ⟨_, rfl⟩
                obtain ⟨s0, hs0⟩ : ∃ s, (⟨(g p).1.toArray⟩ : ByteArray) = s := ⟨_, rfl⟩
                unfold encStr at c1 c0 HLS
                rw [hs1] at c1 HLS
                rw [hs0] at c0 HLS
                clear hs1 hs0 hls hdec HG
                go_wp2
                go_quiet (refine Calls.quiet_of (HLS.out _))
                go_wp2
                go_roundw
                case rel => exact ⟨t + 1, by omega, Or.inl (by omega), by go_num, by
                  obtain ⟨g, h1, h2, h3, h4⟩ := HE.out
                  exact Lib.hid ⟨g, h1.drew _, h2, h3, h4.trans (below_drewN _ _ _)⟩⟩
                case measure => simp [intOf]; omega
        · obtain ⟨w4, hw4⟩ : ∃ w, wr = w := ⟨_, rfl⟩
          subst hw4
          obtain ⟨g, hg⟩ := HR.out
          have HG := Lib.hid hg
          clear hg HR
          have HSZ : Hid (∀ k, k < L → (g k).1.length ≤ 1048576 ∧ In64 (g k).2) := Lib.hid fun k hk => HTS.out (g k) ((HG.out.2.1.mem _).2 ⟨k, hk, rfl⟩)
          have HOB : Hid (IsObj (lastv (kzOf zs) (vzOf vs) nv) ((List.range L).map g)) := Lib.hid (Ord.isObj (fun a b h1 h2 => HG.out.2.2.1 a b h1 (by omega)) HG.out.2.1 HTM2.out)
          obtain ⟨zr, hzr⟩ : ∃ zr, objB ((List.range L).map g) = zr := ⟨_, rfl⟩
          have HP := Lib.hid (HEXL.out nv (by omega) (by omega) (by omega) _ HOB.out)
          rw [hzr] at HP
          have HZR := Lib.hid hzr
          clear hzr
          have HBW := Lib.hid HG.out.2.2.2
          have hLN : L ≤ nv := HTL.out
          have HLU : Hid (U < wr.heap.size ∧ U + 1 < wr.heap.size) := Lib.hid ⟨HG.out.1.rk.lt, HG.out.1.rv.lt⟩
          go_wp2_with (first
            | (at_make; refine Own.wpList_make_buf rfl _ _ 33 rfl 5 Tryz.underlying33 info_u8e wr.heap.size wr (Below.refl _ _) (Nat.le_refl _) _ _ _ (2 + K) rfl rfl (by omega) (by omega) ?_; intro vm wm hbm)
            | (at_builtin; refine Own.wpList_buf_bytes rfl _ _ 33 rfl 5 Tryz.underlying33 info_u8e wr.heap.size wr _ _ rfl (hbm.alloc _) ⟨wm.heap.size, 0, none⟩ 1 1 [123] rfl rfl (Own.new_cells _ _ _ _ rfl) (by decide) ?_))
          intro vs0 ws hbs
          obtain ⟨w4, hw4⟩ : ∃ w, wr = w := ⟨_, rfl⟩
          rw [hw4] at HG HBW HLU
          have HS := Lib.hid (show Own.Buf 5 w4.heap.size w4 ws vs0 [123] from by rw [← hw4]; simpa using hbs)
          clear hbs hbm hw4
          go_wp2_with fail
          go_loopw [13, 14] (fun o i wr => ∃ k : Nat, k ≤ L ∧ i = .int .i64 k ∧ Hid (Own.Buf 5 w4.heap.size w4 wr o (123 :: Esc.glue (((List.range L).map g).map ent) [44] k))) (fun _ i _ => L - (intOf i).toNat)
          case atStart => exact ⟨0, Nat.zero_le _, rfl, HS⟩
          case round =>
            obtain ⟨k, hk, rfl, HR⟩ := hrel
            by_cases hlt2 : k < L
            · have hgs := glue_ent L g k hlt2
              have hgl := glue_len_ent L g HSZ.out k hk
              have hin := HSZ.out k hlt2
              have hcx0 : w4.cell? ⟨U, k, none⟩ = some (encStr (g k).1) := Cells.fill_cell HG.out.1.rk (by omega) hlt2
              have hcy0 : w4.cell? ⟨U + 1, k, none⟩ = some (.int .i64 (g k).2) := Cells.fill_cell HG.out.1.rv (by omega) hlt2
              obtain ⟨z, hz⟩ : ∃ z : ByteArray, ⟨(g k).1.toArray⟩ = z := ⟨_, rfl⟩
              have hzk : (g k).1 = z.data.toList := by rw [← hz]
              unfold encStr at hcx0
              rw [hz] at hcx0
              rw [hzk] at hgs hin
              obtain ⟨y, hy⟩ : ∃ y, (g k).2 = y := ⟨_, rfl⟩
              rw [hy] at hgs hin hcy0
              clear hz hzk hy
              have HCX := Lib.hid hcx0
              have HCY := Lib.hid hcy0
              have hit := fun w => modelQuote_any z z.size rfl hin.1 w
              have hii := fun w => itoaB2_any y hin.2.1 hin.2.2 w
              obtain ⟨sq, hsq⟩ : ∃ s : ByteArray, (⟨(Quo.quote z.data.toList).toArray⟩ : ByteArray) = s := ⟨_, rfl⟩
              obtain ⟨si, hsi⟩ : ∃ s : ByteArray, (⟨(Lib.itoa y).toArray⟩ : ByteArray) = s := ⟨_, rfl⟩
              have HSQ : Hid (sq.data.toList = Quo.quote z.data.toList) := Lib.hid (by rw [← hsq])
              have HSI : Hid (si.data.toList = Lib.itoa y) := Lib.hid (by rw [← hsi])
              rw [hsq] at hit
              rw [hsi] at hii
              have HIT := Lib.hid hit
              have HII := Lib.hid hii
              have HQL : Hid ((Quo.quote z.data.toList).length ≤ 6291458) := Lib.hid (by have := Quo.quote_len z.data.toList; have := hin.1; omega)
              have HIL := Lib.hid (itoa_len hin.2)
              clear hit hii hsq hsi hin hcx0 hcy0
              by_cases k0 : k = 0
              · obtain ⟨X, hX⟩ : ∃ X, 123 :: Esc.glue (((List.range L).map g).map ent) [44] k = X := ⟨_, rfl⟩
                have hXl : X.length ≤ 500000000000 := by rw [← hX, List.length_cons]; omega
                have HGS := Lib.hid (show 123 :: Esc.glue (((List.range L).map g).map ent) [44] (k + 1) = X ++ (Quo.quote z.data.toList ++ (58 :: Lib.itoa y)) from by rw [hgs, if_pos k0, ← hX]; simp)
                rw [hX] at HR
                have HLEN := Lib.hid hXl
                have hk0 : ¬ ((0 : Int) < (k : Int)) := by omega
                have K0 := Lib.hid k0
                clear hgs hX hgl k0 hXl
                have hcx : wr.cell? ⟨U, k, none⟩ = some (.string z) := (HR.out.below.cell (p := ⟨U, k, none⟩) HLU.out.1).trans HCX.out
                go_wp2_with (first
                  | (go_at_call 14; refine (HIT.out _).mono ?_; rintro e w5 ⟨rfl, hb5⟩)
                  | (at_builtin; refine Own.wpList_buf_str rfl _ _ 33 9 rfl 5 Tryz.underlying33 Tryz.underlying9 info_u8e w4.heap.size w4 _ _ rfl (HR.out.later hb5) sq (Quo.quote z.data.toList) rfl HSQ.out (by have h0 := HLEN.out; have h1 := HQL.out; omega) ?_))
                intro v6 w6 hb6
                have HX6 := Lib.hid hb6
                clear hb6 hcx
                have hcy6 : w6.cell? ⟨U + 1, k, none⟩ = some (.int .i64 y) := (HX6.out.below.cell (p := ⟨U + 1, k, none⟩) HLU.out.2).trans HCY.out
                go_wp2_with (at_builtin; refine Own.wpList_buf_bytes rfl _ _ 33 rfl 5 Tryz.underlying33 info_u8e w4.heap.size w4 _ _ rfl (HX6.out.alloc _) ⟨w6.heap.size, 0, none⟩ 1 1 [58] rfl rfl (Own.new_cells _ _ _ _ rfl) (by have h0 := HLEN.out; have h1 := HQL.out; simp only [List.length_append, List.length_cons, List.length_nil]; omega) ?_)
                intro v7 w7 hb7
                have HX7 := Lib.hid hb7
                clear hb7 hcy6
                have hcy7 : w7.cell? ⟨U + 1, k, none⟩ = some (.int .i64 y) := (HX7.out.below.cell (p := ⟨U + 1, k, none⟩) HLU.out.2).trans HCY.out
                go_wp2_with (first
                  | (go_at_call 15; refine (HII.out _).mono ?_; rintro e w8 ⟨rfl, hb8⟩)
                  | (at_builtin; refine Own.wpList_buf_str rfl _ _ 33 9 rfl 5 Tryz.underlying33 Tryz.underlying9 info_u8e w4.heap.size w4 _ _ rfl (HX7.out.later hb8) si (Lib.itoa y) rfl HSI.out (by have h0 := HLEN.out; have h1 := HQL.out; have h2 := HIL.out; simp only [List.length_append, List.length_cons, List.length_nil]; omega) ?_))
                intro v9 w9 hb9
                replace hb9 := Lib.hid (show Own.Buf 5 w4.heap.size w4 w9 v9 (123 :: Esc.glue (((List.range L).map g).map ent) [44] (k + 1)) from by rw [HGS.out]; simpa using hb9)
                clear hcy7
                go_wp2
                go_roundw
                case rel => exact ⟨k + 1, by omega, by go_num, hb9⟩
                case measure => simp [intOf]; omega
              · obtain ⟨X, hX⟩ : ∃ X, 123 :: Esc.glue (((List.range L).map g).map ent) [44] k ++ [44] = X := ⟨_, rfl⟩
                have hXl : X.length ≤ 500000000000 := by rw [← hX]; simp only [List.length_append, List.length_cons, List.length_nil]; omega
                have HGS := Lib.hid (show 123 :: Esc.glue (((List.range L).map g).map ent) [44] (k + 1) = X ++ (Quo.quote z.data.toList ++ (58 :: Lib.itoa y)) from by rw [hgs, if_neg k0, ← hX]; simp)
                have HXE := Lib.hid hX
                have HLEN := Lib.hid hXl
                have HGL : Hid ((123 :: Esc.glue (((List.range L).map g).map ent) [44] k).length + 1 ≤ 500000000000) := Lib.hid (by rw [List.length_cons]; omega)
                have hk0 : (0 : Int) < (k : Int) := by omega
                clear hgs hX hgl hXl
                go_wp2_with (at_builtin; refine Own.wpList_buf_bytes rfl _ _ 33 rfl 5 Tryz.underlying33 info_u8e w4.heap.size w4 _ _ rfl (HR.out.alloc _) ⟨wr.heap.size, 0, none⟩ 1 1 [44] rfl rfl (Own.new_cells _ _ _ _ rfl) (by have h0 := HGL.out; simp only [List.length_cons, List.length_nil] at *; omega) ?_)
                intro v5 wx hbx
                have HX := Lib.hid (show Own.Buf 5 w4.heap.size w4 wx v5 X from by rw [← HXE.out]; simpa using hbx)
                clear hbx
                have hcx : wx.cell? ⟨U, k, none⟩ = some (.string z) := (HX.out.below.cell (p := ⟨U, k, none⟩) HLU.out.1).trans HCX.out
                go_wp2_with (first
                  | (go_at_call 14; refine (HIT.out _).mono ?_; rintro e w5 ⟨rfl, hb5⟩)
                  | (at_builtin; refine Own.wpList_buf_str rfl _ _ 33 9 rfl 5 Tryz.underlying33 Tryz.underlying9 info_u8e w4.heap.size w4 _ _ rfl (HX.out.later hb5) sq (Quo.quote z.data.toList) rfl HSQ.out (by have h0 := HLEN.out; have h1 := HQL.out; omega) ?_))
                intro v6 w6 hb6
                have HX6 := Lib.hid hb6
                clear hb6 hcx
                have hcy6 : w6.cell? ⟨U + 1, k, none⟩ = some (.int .i64 y) := (HX6.out.below.cell (p := ⟨U + 1, k, none⟩) HLU.out.2).trans HCY.out
                go_wp2_with (at_builtin; refine Own.wpList_buf_bytes rfl _ _ 33 rfl 5 Tryz.underlying33 info_u8e w4.heap.size w4 _ _ rfl (HX6.out.alloc _) ⟨w6.heap.size, 0, none⟩ 1 1 [58] rfl rfl (Own.new_cells _ _ _ _ rfl) (by have h0 := HLEN.out; have h1 := HQL.out; simp only [List.length_append, List.length_cons, List.length_nil]; omega) ?_)
                intro v7 w7 hb7
                have HX7 := Lib.hid hb7
                clear hb7 hcy6
                have hcy7 : w7.cell? ⟨U + 1, k, none⟩ = some (.int .i64 y) := (HX7.out.below.cell (p := ⟨U + 1, k, none⟩) HLU.out.2).trans HCY.out
                go_wp2_with (first
                  | (go_at_call 15; refine (HII.out _).mono ?_; rintro e w8 ⟨rfl, hb8⟩)
                  | (at_builtin; refine Own.wpList_buf_str rfl _ _ 33 9 rfl 5 Tryz.underlying33 Tryz.underlying9 info_u8e w4.heap.size w4 _ _ rfl (HX7.out.later hb8) si (Lib.itoa y) rfl HSI.out (by have h0 := HLEN.out; have h1 := HQL.out; have h2 := HIL.out; simp only [List.length_append, List.length_cons, List.length_nil]; omega) ?_))
                intro v9 w9 hb9
                replace hb9 := Lib.hid (show Own.Buf 5 w4.heap.size w4 w9 v9 (123 :: Esc.glue (((List.range L).map g).map ent) [44] (k + 1)) from by rw [HGS.out]; simpa using hb9)
                clear hcy7
                go_wp2
                go_roundw
                case rel => exact ⟨k + 1, by omega, by go_num, hb9⟩
                case measure => simp [intOf]; omega
            · obtain rfl : k = L := by omega
              have hgl := glue_len_ent k g HSZ.out k (Nat.le_refl _)
              go_wp2_with (at_builtin; refine Own.wpList_buf_bytes rfl _ _ 33 rfl 5 Tryz.underlying33 info_u8e w4.heap.size w4 _ _ rfl (HR.out.alloc _) ⟨wr.heap.size, 0, none⟩ 1 1 [125] rfl rfl (Own.new_cells _ _ _ _ rfl) (by simp only [List.length_cons, List.length_nil]; omega) ?_)
              intro vf wf hbf
              have HF := Lib.hid (show Own.Buf 5 w4.heap.size w4 wf vf (objL ((List.range k).map g)) from by unfold objL; rw [List.length_map, List.length_range]; simpa using hbf)
              clear hbf hgl
              have hcv : ∀ w, Below wf.heap.size wf w → (convert 33 9 vf).run Tryz.prog w = .ok (.string zr) w := fun w hb => by
                rw [← HZR.out]
                exact Own.own_text (P := Tryz.prog) 33 9 5 Tryz.underlying33 Tryz.underlying5 Tryz.underlying9 (Own.ownsRow_later HF.out.row hb)
              have HBF : Hid (Below U w2 wf) := Lib.hid (HBW.out.trans (HF.out.below.mono (by have := HLU.out.1; omega)))
              have HZ : Hid (∀ w, Below wf.heap.size wf w → Calls Tryz.prog 10 #[.slice a1 nk cap1, .slice a2 nv cap2, .int .i64 (nv : Nat)] w fun e w' => e = .returned (.string zr) ∧ Below wf.heap.size wf w') := Lib.hid fun w hb => by
                have h0 : Below w2.heap.size w2 w := by rw [HUU.out]; exact HBF.out.trans (hb.mono (by have := HF.out.base; have := HLU.out.1; omega))
                exact (HP.out w h0).mono fun e w' ⟨h1, h2⟩ => ⟨h1, hb.trans (h2.mono hb.size)⟩
              have HBE : Hid (∀ w', Below wf.heap.size wf w' → Below W.heap.size W w') := Lib.hid fun w' hb => HB2.out.trans ((show Below w2.heap.size w2 w' from by rw [HUU.out]; exact HBF.out.trans (hb.mono (by have := HF.out.base; have := HLU.out.1; omega))).mono HB2.out.size)
              have hcv1 := hcv _ (Below.refl _ _).drew
              have HCV := Lib.hid hcv
              clear hcv
              go_wp2_with fail
              go_region_with (go_at_call 10; refine (HZ.out _ ?_).mono ?_; (first | exact (Below.refl _ _).drew | exact Below.refl _ _); rintro e w3 ⟨rfl, hb3⟩; have hcv3 := HCV.out _ hb3)
              all_goals (try go_wp2_with fail)
              all_goals go_returns
              all_goals exact ⟨rfl, HBE.out _ hb3⟩
    · have HLP := Lib.hid (lastPairs_any zs vs nk nv nk (by omega) (by omega) (by omega) _ _ w2 HV2.out HU2.out)
      have HTS : Hid (∀ p ∈ told (kzOf zs) (vzOf vs) nk nk, p.1.length ≤ 1048576 ∧ In64 p.2) := Lib.hid fun p hp => lastv_in64 HZS.out HVS.out ((told_mem _ _ nk p).1 hp)
      have HTM := Lib.hid (told_mem (kzOf zs) (vzOf vs) nk)
      have HND := Lib.hid (told_is (kzOf zs) (vzOf vs) nk nk (Nat.le_refl _)).nd
      have HTL := Lib.hid (told_len (kzOf zs) (vzOf vs) nk nk)
      obtain ⟨tl, htl⟩ : ∃ tl, told (kzOf zs) (vzOf vs) nk nk = tl := ⟨_, rfl⟩
      rw [htl] at HLP HTS HTL
      have HTM2 : Hid (∀ p, p ∈ tl ↔ lastv (kzOf zs) (vzOf vs) nk p.1 = some p.2) := Lib.hid (htl ▸ HTM.out)
      have HND2 : Hid ((tl.map Prod.fst).Nodup) := Lib.hid (htl ▸ HND.out)
      clear htl HTM HND
      have HM0 : Hid (Mem tl.length tl (gOf tl)) := Lib.hid (mem_of_list tl HND2.out (gOf tl) fun i hi => by unfold gOf; rw [List.getD_eq_getElem?_getD, List.getElem?_eq_getElem hi]; rfl)
      obtain ⟨L, hL⟩ : ∃ L, tl.length = L := ⟨_, rfl⟩
      rw [hL] at HLP HTL HM0
      have HLL := Lib.hid hL
      clear hL
      obtain ⟨U, hU⟩ : ∃ U, w2.heap.size = U := ⟨_, rfl⟩
      rw [hU] at HLP
      have HUU := Lib.hid hU
      clear hU
      have HL4 : Hid (L ≤ 4096) := Lib.hid (Nat.le_trans HTL.out (by omega))
      have hl4 : L ≤ 4096 := HL4.out
      have hUne : ¬ U = U + 1 := by omega
      have hUne2 : ¬ U + 1 = U := by omega
      go_wp2_with fail
      refine HLP.out.mono ?_
      rintro e w3 ⟨rfl, hk3, hb3⟩
      have HS0 : Hid (∃ g, KVRows U (U + 1) nk L g w3 ∧ Mem L tl g ∧ Ord 1 g ∧ Below U w2 w3) := Lib.hid ⟨_, hk3, HM0.out, fun a b h1 h2 => absurd h1 (by omega), hb3⟩
      clear hk3 hb3 HLP
      go_wp2
      go_loopw [9] (fun v9 wr => ∃ t : Nat, 1 ≤ t ∧ (t ≤ L ∨ t = 1) ∧ v9 = .int .i64 t ∧ Hid (∃ g, KVRows U (U + 1) nk L g wr ∧ Mem L tl g ∧ Ord t g ∧ Below U w2 wr)) (fun v9 _ => L - (intOf v9).toNat)
      case atStart => exact ⟨1, Nat.le_refl _, Or.inr rfl, rfl, HS0⟩
      case round =>
        obtain ⟨t, ht1, htL, rfl, HR⟩ := hrel
        by_cases hlt : t < L
        · have HI0 : Hid (∃ g, KVRows U (U + 1) nk L g wr ∧ Mem L tl g ∧ Hole t t g ∧ Below U w2 wr) := by
            obtain ⟨g, h1, h2, h3, h4⟩ := HR.out
            exact Lib.hid ⟨g, h1, h2, h3.hole, h4⟩
          clear HR
          go_wp2
          go_loopw [10] (fun v10 ws => ∃ m : Nat, m ≤ t ∧ v10 = .int .i64 m ∧ Hid (∃ g, KVRows U (U + 1) nk L g ws ∧ Mem L tl g ∧ Hole t m g ∧ Below U w2 ws)) (fun v10 _ => (intOf v10).toNat)
          case atStart => exact ⟨t, Nat.le_refl _, rfl, HI0⟩
          case round =>
            obtain ⟨m, hm, rfl, HJ⟩ := hrel
            obtain ⟨g, hg⟩ := HJ.out
            have HG := Lib.hid hg
            clear hg HJ
            by_cases hm0 : m = 0
            · subst hm0
              have HE : Hid (∃ g, KVRows U (U + 1) nk L g wr ∧ Mem L tl g ∧ Ord (t + 1) g ∧ Below U w2 wr) := Lib.hid ⟨g, HG.out.1, HG.out.2.1, HG.out.2.2.1.done HG.out.2.1 hlt (Nat.zero_le _) (Or.inl rfl), HG.out.2.2.2⟩
              go_wp2
              go_quiet (fail)
              go_wp2
              go_roundw
              case rel => exact ⟨t + 1, by omega, Or.inl (by omega), by go_num, by
                obtain ⟨g, h1, h2, h3, h4⟩ := HE.out
                exact Lib.hid ⟨g, h1.drew _, h2, h3, h4.trans (below_drewN _ _ _)⟩⟩
              case measure => simp [intOf]; omega
            · obtain ⟨p, hp⟩ : ∃ p, m = p + 1 := ⟨m - 1, by omega⟩
              have hJ : (m : Int) - 1 = (p : Int) := by omega
              have HMP := Lib.hid hp
              have hpL : p < L := by omega
              have hmL : m < L := by omega
              have hmp : 0 < m := by omega
              have hpm : ¬ m = p := by omega
              have hpm2 : ¬ p = m := by omega
              have hLN : L ≤ nk := HTL.out
              have c1 : wr.cell? ⟨U, m, none⟩ = some (encStr (g m).1) := Cells.fill_cell HG.out.1.rk (by omega) hmL
              have c0 : wr.cell? ⟨U, p, none⟩ = some (encStr (g p).1) := Cells.fill_cell HG.out.1.rk (by omega) hpL
              have d1 : wr.cell? ⟨U + 1, m, none⟩ = some (.int .i64 (g m).2) := Cells.fill_cell HG.out.1.rv (by omega) hmL
              have d0 : wr.cell? ⟨U + 1, p, none⟩ = some (.int .i64 (g p).2) := Cells.fill_cell HG.out.1.rv (by omega) hpL
              have f1 := HG.out.1.rk.frozen m
              have f0 := HG.out.1.rk.frozen p
              have f3 := HG.out.1.rv.frozen m
              have f2 := HG.out.1.rv.frozen p
              have hsz : ∀ k, k < L → (g k).1.length ≤ 1048576 := fun k hk => (HTS.out (g k) ((HG.out.2.1.mem _).2 ⟨k, hk, rfl⟩)).1
              have HLS : Hid (∀ w, Calls Tryz.prog 13 #[encStr (g m).1, encStr (g p).1] w fun e w' => e = .returned (.bool (decide ((g m).1 < (g p).1))) ∧ ∃ q, w' = w.drewN q) := Lib.hid fun w => lessB2_any ⟨(g m).1.toArray⟩ ⟨(g p).1.toArray⟩ (hsz m hmL) (hsz p hpL) w
              clear hsz hp
              by_cases hls : (g m).1 < (g p).1
              · have HSW : Hid (∀ q, ∃ g', KVRows U (U + 1) nk L g' (((((wr.drewN q).setCell ⟨U, m, none⟩ (encStr (g p).1)).setCell ⟨U, p, none⟩ (encStr (g m).1)).setCell ⟨U + 1, m, none⟩ (.int .i64 (g p).2)).setCell ⟨U + 1, p, none⟩ (.int .i64 (g m).2)) ∧ Mem L tl g' ∧ Hole t p g' ∧
                    Below U w2 (((((wr.drewN q).setCell ⟨U, m, none⟩ (encStr (g p).1)).setCell ⟨U, p, none⟩ (encStr (g m).1)).setCell ⟨U + 1, m, none⟩ (.int .i64 (g p).2)).setCell ⟨U + 1, p, none⟩ (.int .i64 (g m).2))) := Lib.hid fun q => by
                  have hpe : p = m - 1 := by have := HMP.out; omega
                  refine ⟨_, (HG.out.1.drew q).swap hmL HMP.out (by omega), HG.out.2.1.sw hmL hmp, ?_, ?_⟩
                  · rw [hpe]; exact HG.out.2.2.1.sw hm hmp (by rw [← hpe]; exact hls)
                  · exact ((((HG.out.2.2.2.trans (below_drewN _ _ _)).setCell (Nat.le_refl _) _).setCell (Nat.le_refl _) _).setCell (Nat.le_succ _) _).setCell (Nat.le_succ _) _
                have hdec : decide ((g m).1 < (g p).1) = true := decide_eq_true hls
                rw [hdec] at HLS
                obtain ⟨s1, hs1⟩ : ∃ s, (⟨(g m).1.toArray⟩ : ByteArray) = s := ⟨_, rfl⟩
                obtain ⟨s0, hs0⟩ : ∃ s, (⟨(g p).1.toArray⟩ : ByteArray) = s := ⟨_, rfl⟩
                obtain ⟨y1, hy1⟩ : ∃ s, (g m).2 = s := ⟨_, rfl⟩
                obtain ⟨y0, hy0⟩ : ∃ s, (g p).2 = s := ⟨_, rfl⟩
                unfold encStr at c1 c0 HLS HSW
                rw [hs1] at c1 HLS HSW
                rw [hs0] at c0 HLS HSW
                rw [hy1] at d1 HSW
                rw [hy0] at d0 HSW
                clear hs1 hs0 hy1 hy0 hls hdec HG
                go_wp2
                go_quiet (refine Calls.quiet_of (HLS.out _))
                go_wp2
                go_roundw
                case rel => exact ⟨p, by omega, by go_num, Lib.hid (HSW.out _)⟩
                case measure => simp [intOf]; omega
              · have HE : Hid (∃ g, KVRows U (U + 1) nk L g wr ∧ Mem L tl g ∧ Ord (t + 1) g ∧ Below U w2 wr) := Lib.hid ⟨g, HG.out.1, HG.out.2.1, HG.out.2.2.1.done HG.out.2.1 hlt hm (Or.inr (by rw [show m - 1 = p from by have := HMP.out; omega]; exact hls)), HG.out.2.2.2⟩
                have hdec : decide ((g m).1 < (g p).1) = false := decide_eq_false hls
                rw [hdec] at HLS
                obtain ⟨s1, hs1⟩ : ∃ s, (⟨(g m).1.toArray⟩ : ByteArray) = s := ⟨_, rfl⟩
                obtain ⟨s0, hs0⟩ : ∃ s, (⟨(g p).1.toArray⟩ : ByteArray) = s := ⟨_, rfl⟩
                unfold encStr at c1 c0 HLS
                rw [hs1] at c1 HLS
                rw [hs0] at c0 HLS
                clear hs1 hs0 hls hdec HG
                go_wp2
                go_quiet (refine Calls.quiet_of (HLS.out _))
                go_wp2
                go_roundw
                case rel => exact ⟨t + 1, by omega, Or.inl (by omega), by go_num, by
                  obtain ⟨g, h1, h2, h3, h4⟩ := HE.out
                  exact Lib.hid ⟨g, h1.drew _, h2, h3, h4.trans (below_drewN _ _ _)⟩⟩
                case measure => simp [intOf]; omega
        · obtain ⟨w4, hw4⟩ : ∃ w, wr = w := ⟨_, rfl⟩
          subst hw4
          obtain ⟨g, hg⟩ := HR.out
          have HG := Lib.hid hg
          clear hg HR
          have HSZ : Hid (∀ k, k < L → (g k).1.length ≤ 1048576 ∧ In64 (g k).2) := Lib.hid fun k hk => HTS.out (g k) ((HG.out.2.1.mem _).2 ⟨k, hk, rfl⟩)
          have HOB : Hid (IsObj (lastv (kzOf zs) (vzOf vs) nk) ((List.range L).map g)) := Lib.hid (Ord.isObj (fun a b h1 h2 => HG.out.2.2.1 a b h1 (by omega)) HG.out.2.1 HTM2.out)
          obtain ⟨zr, hzr⟩ : ∃ zr, objB ((List.range L).map g) = zr := ⟨_, rfl⟩
          have HP := Lib.hid (HEXL.out nk (by omega) (by omega) (by omega) _ HOB.out)
          rw [hzr] at HP
          have HZR := Lib.hid hzr
          clear hzr
          have HBW := Lib.hid HG.out.2.2.2
          have hLN : L ≤ nk := HTL.out
          have HLU : Hid (U < wr.heap.size ∧ U + 1 < wr.heap.size) := Lib.hid ⟨HG.out.1.rk.lt, HG.out.1.rv.lt⟩
          go_wp2_with (first
            | (at_make; refine Own.wpList_make_buf rfl _ _ 33 rfl 5 Tryz.underlying33 info_u8e wr.heap.size wr (Below.refl _ _) (Nat.le_refl _) _ _ _ (2 + K) rfl rfl (by omega) (by omega) ?_; intro vm wm hbm)
            | (at_builtin; refine Own.wpList_buf_bytes rfl _ _ 33 rfl 5 Tryz.underlying33 info_u8e wr.heap.size wr _ _ rfl (hbm.alloc _) ⟨wm.heap.size, 0, none⟩ 1 1 [123] rfl rfl (Own.new_cells _ _ _ _ rfl) (by decide) ?_))
          intro vs0 ws hbs
          obtain ⟨w4, hw4⟩ : ∃ w, wr = w := ⟨_, rfl⟩
          rw [hw4] at HG HBW HLU
          have HS := Lib.hid (show Own.Buf 5 w4.heap.size w4 ws vs0 [123] from by rw [← hw4]; simpa using hbs)
          clear hbs hbm hw4
          go_wp2_with fail
          go_loopw [13, 14] (fun o i wr => ∃ k : Nat, k ≤ L ∧ i = .int .i64 k ∧ Hid (Own.Buf 5 w4.heap.size w4 wr o (123 :: Esc.glue (((List.range L).map g).map ent) [44] k))) (fun _ i _ => L - (intOf i).toNat)
          case atStart => exact ⟨0, Nat.zero_le _, rfl, HS⟩
          case round =>
            obtain ⟨k, hk, rfl, HR⟩ := hrel
            by_cases hlt2 : k < L
            · have hgs := glue_ent L g k hlt2
              have hgl := glue_len_ent L g HSZ.out k hk
              have hin := HSZ.out k hlt2
              have hcx0 : w4.cell? ⟨U, k, none⟩ = some (encStr (g k).1) := Cells.fill_cell HG.out.1.rk (by omega) hlt2
              have hcy0 : w4.cell? ⟨U + 1, k, none⟩ = some (.int .i64 (g k).2) := Cells.fill_cell HG.out.1.rv (by omega) hlt2
              obtain ⟨z, hz⟩ : ∃ z : ByteArray, ⟨(g k).1.toArray⟩ = z := ⟨_, rfl⟩
              have hzk : (g k).1 = z.data.toList := by rw [← hz]
              unfold encStr at hcx0
              rw [hz] at hcx0
              rw [hzk] at hgs hin
              obtain ⟨y, hy⟩ : ∃ y, (g k).2 = y := ⟨_, rfl⟩
              rw [hy] at hgs hin hcy0
              clear hz hzk hy
              have HCX := Lib.hid hcx0
              have HCY := Lib.hid hcy0
              have hit := fun w => modelQuote_any z z.size rfl hin.1 w
              have hii := fun w => itoaB2_any y hin.2.1 hin.2.2 w
              obtain ⟨sq, hsq⟩ : ∃ s : ByteArray, (⟨(Quo.quote z.data.toList).toArray⟩ : ByteArray) = s := ⟨_, rfl⟩
              obtain ⟨si, hsi⟩ : ∃ s : ByteArray, (⟨(Lib.itoa y).toArray⟩ : ByteArray) = s := ⟨_, rfl⟩
              have HSQ : Hid (sq.data.toList = Quo.quote z.data.toList) := Lib.hid (by rw [← hsq])
              have HSI : Hid (si.data.toList = Lib.itoa y) := Lib.hid (by rw [← hsi])
              rw [hsq] at hit
              rw [hsi] at hii
              have HIT := Lib.hid hit
              have HII := Lib.hid hii
              have HQL : Hid ((Quo.quote z.data.toList).length ≤ 6291458) := Lib.hid (by have := Quo.quote_len z.data.toList; have := hin.1; omega)
              have HIL := Lib.hid (itoa_len hin.2)
              clear hit hii hsq hsi hin hcx0 hcy0
              by_cases k0 : k = 0
              · obtain ⟨X, hX⟩ : ∃ X, 123 :: Esc.glue (((List.range L).map g).map ent) [44] k = X := ⟨_, rfl⟩
                have hXl : X.length ≤ 500000000000 := by rw [← hX, List.length_cons]; omega
                have HGS := Lib.hid (show 123 :: Esc.glue (((List.range L).map g).map ent) [44] (k + 1) = X ++ (Quo.quote z.data.toList ++ (58 :: Lib.itoa y)) from by rw [hgs, if_pos k0, ← hX]; simp)
                rw [hX] at HR
                have HLEN := Lib.hid hXl
                have hk0 : ¬ ((0 : Int) < (k : Int)) := by omega
                have K0 := Lib.hid k0
                clear hgs hX hgl k0 hXl
                have hcx : wr.cell? ⟨U, k, none⟩ = some (.string z) := (HR.out.below.cell (p := ⟨U, k, none⟩) HLU.out.1).trans HCX.out
                go_wp2_with (first
                  | (go_at_call 14; refine (HIT.out _).mono ?_; rintro e w5 ⟨rfl, hb5⟩)
                  | (at_builtin; refine Own.wpList_buf_str rfl _ _ 33 9 rfl 5 Tryz.underlying33 Tryz.underlying9 info_u8e w4.heap.size w4 _ _ rfl (HR.out.later hb5) sq (Quo.quote z.data.toList) rfl HSQ.out (by have h0 := HLEN.out; have h1 := HQL.out; omega) ?_))
                intro v6 w6 hb6
                have HX6 := Lib.hid hb6
                clear hb6 hcx
                have hcy6 : w6.cell? ⟨U + 1, k, none⟩ = some (.int .i64 y) := (HX6.out.below.cell (p := ⟨U + 1, k, none⟩) HLU.out.2).trans HCY.out
                go_wp2_with (at_builtin; refine Own.wpList_buf_bytes rfl _ _ 33 rfl 5 Tryz.underlying33 info_u8e w4.heap.size w4 _ _ rfl (HX6.out.alloc _) ⟨w6.heap.size, 0, none⟩ 1 1 [58] rfl rfl (Own.new_cells _ _ _ _ rfl) (by have h0 := HLEN.out; have h1 := HQL.out; simp only [List.length_append, List.length_cons, List.length_nil]; omega) ?_)
                intro v7 w7 hb7
                have HX7 := Lib.hid hb7
                clear hb7 hcy6
                have hcy7 : w7.cell? ⟨U + 1, k, none⟩ = some (.int .i64 y) := (HX7.out.below.cell (p := ⟨U + 1, k, none⟩) HLU.out.2).trans HCY.out
                go_wp2_with (first
                  | (go_at_call 15; refine (HII.out _).mono ?_; rintro e w8 ⟨rfl, hb8⟩)
                  | (at_builtin; refine Own.wpList_buf_str rfl _ _ 33 9 rfl 5 Tryz.underlying33 Tryz.underlying9 info_u8e w4.heap.size w4 _ _ rfl (HX7.out.later hb8) si (Lib.itoa y) rfl HSI.out (by have h0 := HLEN.out; have h1 := HQL.out; have h2 := HIL.out; simp only [List.length_append, List.length_cons, List.length_nil]; omega) ?_))
                intro v9 w9 hb9
                replace hb9 := Lib.hid (show Own.Buf 5 w4.heap.size w4 w9 v9 (123 :: Esc.glue (((List.range L).map g).map ent) [44] (k + 1)) from by rw [HGS.out]; simpa using hb9)
                clear hcy7
                go_wp2
                go_roundw
                case rel => exact ⟨k + 1, by omega, by go_num, hb9⟩
                case measure => simp [intOf]; omega
              · obtain ⟨X, hX⟩ : ∃ X, 123 :: Esc.glue (((List.range L).map g).map ent) [44] k ++ [44] = X := ⟨_, rfl⟩
                have hXl : X.length ≤ 500000000000 := by rw [← hX]; simp only [List.length_append, List.length_cons, List.length_nil]; omega
                have HGS := Lib.hid (show 123 :: Esc.glue (((List.range L).map g).map ent) [44] (k + 1) = X ++ (Quo.quote z.data.toList ++ (58 :: Lib.itoa y)) from by rw [hgs, if_neg k0, ← hX]; simp)
                have HXE := Lib.hid hX
                have HLEN := Lib.hid hXl
                have HGL : Hid ((123 :: Esc.glue (((List.range L).map g).map ent) [44] k).length + 1 ≤ 500000000000) := Lib.hid (by rw [List.length_cons]; omega)
                have hk0 : (0 : Int) < (k : Int) := by omega
                clear hgs hX hgl hXl
                go_wp2_with (at_builtin; refine Own.wpList_buf_bytes rfl _ _ 33 rfl 5 Tryz.underlying33 info_u8e w4.heap.size w4 _ _ rfl (HR.out.alloc _) ⟨wr.heap.size, 0, none⟩ 1 1 [44] rfl rfl (Own.new_cells _ _ _ _ rfl) (by have h0 := HGL.out; simp only [List.length_cons, List.length_nil] at *; omega) ?_)
                intro v5 wx hbx
                have HX := Lib.hid (show Own.Buf 5 w4.heap.size w4 wx v5 X from by rw [← HXE.out]; simpa using hbx)
                clear hbx
                have hcx : wx.cell? ⟨U, k, none⟩ = some (.string z) := (HX.out.below.cell (p := ⟨U, k, none⟩) HLU.out.1).trans HCX.out
                go_wp2_with (first
                  | (go_at_call 14; refine (HIT.out _).mono ?_; rintro e w5 ⟨rfl, hb5⟩)
                  | (at_builtin; refine Own.wpList_buf_str rfl _ _ 33 9 rfl 5 Tryz.underlying33 Tryz.underlying9 info_u8e w4.heap.size w4 _ _ rfl (HX.out.later hb5) sq (Quo.quote z.data.toList) rfl HSQ.out (by have h0 := HLEN.out; have h1 := HQL.out; omega) ?_))
                intro v6 w6 hb6
                have HX6 := Lib.hid hb6
                clear hb6 hcx
                have hcy6 : w6.cell? ⟨U + 1, k, none⟩ = some (.int .i64 y) := (HX6.out.below.cell (p := ⟨U + 1, k, none⟩) HLU.out.2).trans HCY.out
                go_wp2_with (at_builtin; refine Own.wpList_buf_bytes rfl _ _ 33 rfl 5 Tryz.underlying33 info_u8e w4.heap.size w4 _ _ rfl (HX6.out.alloc _) ⟨w6.heap.size, 0, none⟩ 1 1 [58] rfl rfl (Own.new_cells _ _ _ _ rfl) (by have h0 := HLEN.out; have h1 := HQL.out; simp only [List.length_append, List.length_cons, List.length_nil]; omega) ?_)
                intro v7 w7 hb7
                have HX7 := Lib.hid hb7
                clear hb7 hcy6
                have hcy7 : w7.cell? ⟨U + 1, k, none⟩ = some (.int .i64 y) := (HX7.out.below.cell (p := ⟨U + 1, k, none⟩) HLU.out.2).trans HCY.out
                go_wp2_with (first
                  | (go_at_call 15; refine (HII.out _).mono ?_; rintro e w8 ⟨rfl, hb8⟩)
                  | (at_builtin; refine Own.wpList_buf_str rfl _ _ 33 9 rfl 5 Tryz.underlying33 Tryz.underlying9 info_u8e w4.heap.size w4 _ _ rfl (HX7.out.later hb8) si (Lib.itoa y) rfl HSI.out (by have h0 := HLEN.out; have h1 := HQL.out; have h2 := HIL.out; simp only [List.length_append, List.length_cons, List.length_nil]; omega) ?_))
                intro v9 w9 hb9
                replace hb9 := Lib.hid (show Own.Buf 5 w4.heap.size w4 w9 v9 (123 :: Esc.glue (((List.range L).map g).map ent) [44] (k + 1)) from by rw [HGS.out]; simpa using hb9)
                clear hcy7
                go_wp2
                go_roundw
                case rel => exact ⟨k + 1, by omega, by go_num, hb9⟩
                case measure => simp [intOf]; omega
            · obtain rfl : k = L := by omega
              have hgl := glue_len_ent k g HSZ.out k (Nat.le_refl _)
              go_wp2_with (at_builtin; refine Own.wpList_buf_bytes rfl _ _ 33 rfl 5 Tryz.underlying33 info_u8e w4.heap.size w4 _ _ rfl (HR.out.alloc _) ⟨wr.heap.size, 0, none⟩ 1 1 [125] rfl rfl (Own.new_cells _ _ _ _ rfl) (by simp only [List.length_cons, List.length_nil]; omega) ?_)
              intro vf wf hbf
              have HF := Lib.hid (show Own.Buf 5 w4.heap.size w4 wf vf (objL ((List.range k).map g)) from by unfold objL; rw [List.length_map, List.length_range]; simpa using hbf)
              clear hbf hgl
              have hcv : ∀ w, Below wf.heap.size wf w → (convert 33 9 vf).run Tryz.prog w = .ok (.string zr) w := fun w hb => by
                rw [← HZR.out]
                exact Own.own_text (P := Tryz.prog) 33 9 5 Tryz.underlying33 Tryz.underlying5 Tryz.underlying9 (Own.ownsRow_later HF.out.row hb)
              have HBF : Hid (Below U w2 wf) := Lib.hid (HBW.out.trans (HF.out.below.mono (by have := HLU.out.1; omega)))
              have HZ : Hid (∀ w, Below wf.heap.size wf w → Calls Tryz.prog 10 #[.slice a1 nk cap1, .slice a2 nv cap2, .int .i64 (nk : Nat)] w fun e w' => e = .returned (.string zr) ∧ Below wf.heap.size wf w') := Lib.hid fun w hb => by
                have h0 : Below w2.heap.size w2 w := by rw [HUU.out]; exact HBF.out.trans (hb.mono (by have := HF.out.base; have := HLU.out.1; omega))
                exact (HP.out w h0).mono fun e w' ⟨h1, h2⟩ => ⟨h1, hb.trans (h2.mono hb.size)⟩
              have HBE : Hid (∀ w', Below wf.heap.size wf w' → Below W.heap.size W w') := Lib.hid fun w' hb => HB2.out.trans ((show Below w2.heap.size w2 w' from by rw [HUU.out]; exact HBF.out.trans (hb.mono (by have := HF.out.base; have := HLU.out.1; omega))).mono HB2.out.size)
              have hcv1 := hcv _ (Below.refl _ _).drew
              have HCV := Lib.hid hcv
              clear hcv
              go_wp2_with fail
              go_region_with (go_at_call 10; refine (HZ.out _ ?_).mono ?_; (first | exact (Below.refl _ _).drew | exact Below.refl _ _); rintro e w3 ⟨rfl, hb3⟩; have hcv3 := HCV.out _ hb3)
              all_goals (try go_wp2_with fail)
              all_goals go_returns
              all_goals exact ⟨rfl, HBE.out _ hb3⟩
end Go.Proofs.YtngdcnljbfkneaaGreatFmt
