/- The walk of FnEncodeObjectOrderFree. -/
import Derived.Test.YtngdcnljbfkneaaGreatFmtObjC
namespace Go.Proofs.YtngdcnljbfkneaaGreatFmt
open Go.RowKit Go.Deep Go.Lib Go.Sort Go.ObjP

theorem kv_at {B1 B2 cap L : Nat} {l : List KV} {w : World} (hl : l.length = L) (h : KVRows B1 B2 cap L (gOf l) w) (hc : L ≤ cap) :
    Cells.At w (.slice (some ⟨B1, 0, none⟩) L cap) (StrF (l.map fun p => ⟨p.1.toArray⟩)) L ∧ Cells.At w (.slice (some ⟨B2, 0, none⟩) L cap) (IntF (l.map Prod.snd)) L := by
  refine ⟨⟨_, _, rfl, fun h0 => ⟨B1, 0, rfl, h.rk.lt, fun i hi => ?_⟩⟩, ⟨_, _, rfl, fun h0 => ⟨B2, 0, rfl, h.rv.lt, fun i hi => ?_⟩⟩⟩
  · rw [Nat.zero_add, Cells.fill_cell h.rk (by omega) hi]
    unfold StrF gOf
    rw [List.getD_eq_getElem?_getD, List.getD_eq_getElem?_getD, List.getElem?_map, List.getElem?_eq_getElem (by omega)]
    rfl
  · rw [Nat.zero_add, Cells.fill_cell h.rv (by omega) hi]
    unfold IntF gOf
    rw [List.getD_eq_getElem?_getD, List.getD_eq_getElem?_getD, List.getElem?_map, List.getElem?_eq_getElem (by omega)]
    rfl
theorem kz_map (l : List KV) (i : Nat) (h : i < l.length) : kzOf (l.map fun p => ⟨p.1.toArray⟩) i = (l[i]).1 := by
  unfold kzOf
  rw [List.getD_eq_getElem?_getD, List.getElem?_map, List.getElem?_eq_getElem h]
  rfl
theorem vz_map (l : List KV) (i : Nat) (h : i < l.length) : vzOf (l.map Prod.snd) i = (l[i]).2 := by
  unfold vzOf
  rw [List.getD_eq_getElem?_getD, List.getElem?_map, List.getElem?_eq_getElem h]
  rfl
theorem told_sizes {zs : List ByteArray} {vs : List Int} (hz : Sizes zs) (hv : ∀ i, In64 (vs.getD i 0)) (n : Nat) :
    Sizes ((told (kzOf zs) (vzOf vs) n n).map fun p => ⟨p.1.toArray⟩) ∧ ∀ i, In64 (((told (kzOf zs) (vzOf vs) n n).map Prod.snd).getD i 0) := by
  have h : ∀ p ∈ told (kzOf zs) (vzOf vs) n n, p.1.length ≤ 1048576 ∧ In64 p.2 := fun p hp => lastv_in64 hz hv ((told_mem _ _ n p).1 hp)
  refine ⟨fun j => ?_, fun j => ?_⟩
  · rw [List.getD_eq_getElem?_getD]
    cases e : ((told (kzOf zs) (vzOf vs) n n).map fun p => (⟨p.1.toArray⟩ : ByteArray))[j]? with
    | none => exact Nat.zero_le _
    | some x =>
      obtain ⟨p, hp, rfl⟩ := List.mem_map.1 (List.mem_of_getElem? e)
      exact (h p hp).1
  · rw [List.getD_eq_getElem?_getD]
    cases e : ((told (kzOf zs) (vzOf vs) n n).map Prod.snd)[j]? with
    | none => exact ⟨by decide, by decide⟩
    | some x =>
      obtain ⟨p, hp, rfl⟩ := List.mem_map.1 (List.mem_of_getElem? e)
      exact (h p hp).2

set_option maxRecDepth 100000 in
set_option maxHeartbeats 16000000 in
theorem walk_FnEncodeObjectOrderFree (W : World) (v : Value) (zs : List ByteArray) (hv : Cells.At W v (StrF zs) zs.length) (hz : ∀ s ∈ zs, s.size ≤ maxLen) (u : Value) (vs : List Int) (hu : IntArg W u vs) (hw : ∀ n ∈ vs, (Lit.int .i64 n).wf = true)
    (hdr : DrBelow W.heap.size W) (htab : Lib.TabIs Tryz.prog W "internal/strconv.uint64pow10" .u64 Lib.pow10Tab) :
    Calls Tryz.prog 3 #[v, u] W fun e w' => e = .returned (.bool true) ∧ Below W.heap.size W w' := by
  have hu := at_intArg hu
  obtain ⟨nk, hnk⟩ : ∃ n, zs.length = n := ⟨_, rfl⟩
  obtain ⟨nv, hnv⟩ : ∃ n, vs.length = n := ⟨_, rfl⟩
  rw [hnk] at hv
  rw [hnv] at hu
  have HDR := Lib.hid hdr
  have HTAB := Lib.hid (Lib.tabBelow_of_tabIs htab)
  have HVS : Hid (∀ i, In64 (vs.getD i 0)) := Lib.hid (getD_in64 hw)
  have HMX : Hid (∀ j, j < nk → szAt zs j ≤ maxLen) := Lib.hid fun j hj => by
    unfold szAt
    rw [List.getD_eq_getElem?_getD, List.getElem?_eq_getElem (by omega)]
    exact hz _ (List.getElem_mem _)
  have HNK := Lib.hid hnk
  clear hdr htab hz hw hnv
  have HV := Lib.hid hv
  have HU := Lib.hid hu
  obtain ⟨a, cap, rfl, hcc⟩ := hv
  obtain ⟨av, capv, rfl, _⟩ := hu
  have HC : Hid (TextCells zs nk a W) := Lib.hid hcc
  clear hcc hnk
  go_enter Tryz.func3, Tryz.ntmps3
  go_wp2_with fail
  refine (zzbQ zs nk a av cap nv capv _ HC.out HMX.out).mono ?_
  rintro e w' ⟨b, rfl, hb, rfl⟩
  cases b with
  | false =>
    go_wp2
    go_ret
    exact ⟨rfl, Below.refl _ _⟩
  | true =>
    have HLN := Lib.hid (hb rfl)
    clear hb
    by_cases c2 : 4096 < nk
    · go_wp2
      go_ret
      exact ⟨rfl, Below.refl _ _⟩
    by_cases c3 : 4096 < nv
    · go_wp2
      go_ret
      exact ⟨rfl, Below.refl _ _⟩
    have HZS : Hid (Sizes zs) := Lib.hid fun j => by
      by_cases hj : j < nk
      · exact HLN.out j hj
      · rw [List.getD_eq_getElem?_getD, List.getElem?_eq_none (by rw [HNK.out]; omega)]
        exact Nat.zero_le _
    have HK := Lib.hid (kvBytes_any zs nk nv a av cap capv HZS.out (by omega) (by omega) W HC.out)
    obtain ⟨K, hK⟩ : ∃ K : Nat, kvTot zs nk nv nk = K := ⟨_, rfl⟩
    rw [hK] at HK
    clear hK
    by_cases c4 : 1048576 < K
    · go_wp2_with (go_at_call 6; refine HK.out.mono ?_; rintro e w' ⟨rfl, rfl⟩)
      go_ret
      exact ⟨rfl, Below.refl _ _⟩
    go_wp2_with (go_at_call 6; refine HK.out.mono ?_; rintro e w' ⟨rfl, rfl⟩)
    refine (cloneS_any zs nk _ (by omega) _ HV.out).mono ?_
    rintro e w1 ⟨⟨v1, rfl, hv1⟩, hb1⟩
    have HV1 := Lib.hid hv1
    have HB1 := Lib.hid hb1
    have HU1 := Lib.hid (HU.out.later hb1)
    clear hb1
    obtain ⟨a1, cap1, rfl, _⟩ := hv1
    go_wp2_with fail
    refine (cloneI_any vs nv _ (by omega) _ HU1.out).mono ?_
    rintro e w2 ⟨⟨u2, rfl, hu2⟩, hb2⟩
    have HV2 := Lib.hid (HV1.out.later hb2)
    have HU2 := Lib.hid hu2
    have HB2 := Lib.hid (HB1.out.trans (hb2.mono HB1.out.size))
    clear hb2
    obtain ⟨a2, cap2, rfl, _⟩ := hu2
    have HEX : ∀ n, n ≤ nk → n ≤ nv → n ≤ 4096 → ∀ l, IsObj (lastv (kzOf zs) (vzOf vs) n) l → ∀ w, Below w2.heap.size w2 w → Calls Tryz.prog 10 #[.slice a1 nk cap1, .slice a2 nv cap2, .int .i64 (n : Nat)] w fun e w' => e = .returned (.string (objB l)) ∧ Below w.heap.size w w' := by
      intro n h1 h2 h3 l hl w hb
      exact zzPairs_any zs vs nk nv n h1 h2 HZS.out HVS.out h3 _ _ W.heap.size w (Nat.le_trans HB2.out.size hb.size) (HDR.out.on (HB2.out.trans (hb.mono HB2.out.size))) (HTAB.out.on (HB2.out.trans (hb.mono HB2.out.size))) (HV2.out.later hb) (HU2.out.later hb) l hl
    have HEXL := Lib.hid HEX
    have HE0 : Hid (∀ w, Below w2.heap.size w2 w → Calls Tryz.prog 10 #[.slice a1 nk cap1, .slice a2 nv cap2, .int .i64 0] w fun e w' => e = .returned (.string ⟨#[123, 125]⟩) ∧ Below w.heap.size w w') := Lib.hid fun w hb => HEX 0 (Nat.zero_le _) (Nat.zero_le _) (by omega) [] (isObj_zero _ _) w hb
    clear HEX
    by_cases hmin : nv < nk
    · have HLP := Lib.hid (lastPairs_any zs vs nk nv nv (by omega) (by omega) (by omega) _ _ w2 HV2.out HU2.out)
      obtain ⟨l, hl⟩ := obj_exists (kzOf zs) (vzOf vs) nv
      have HL := Lib.hid hl
      have HP := Lib.hid (HEXL.out nv (by omega) (by omega) (by omega) l hl)
      have HTS := Lib.hid (told_sizes (vs := vs) HZS.out HVS.out nv)
      have HAG := Lib.hid (lastv_again (kzOf zs) (vzOf vs) nv (told (kzOf zs) (vzOf vs) nv nv) rfl _ _ (kz_map _) (vz_map _))
      have HTL := Lib.hid (told_len (kzOf zs) (vzOf vs) nv nv)
      clear hl
      obtain ⟨tl, htl⟩ : ∃ tl, told (kzOf zs) (vzOf vs) nv nv = tl := ⟨_, rfl⟩
      rw [htl] at HLP HTS HAG HTL
      clear htl
      obtain ⟨L, hL⟩ : ∃ L, tl.length = L := ⟨_, rfl⟩
      rw [hL] at HLP HAG HTL
      have HLL := Lib.hid hL
      clear hL
      obtain ⟨zr, hzr⟩ : ∃ zr, objB l = zr := ⟨_, rfl⟩
      rw [hzr] at HP
      have HZR := Lib.hid hzr
      clear hzr
      go_wp2_with fail
      refine HLP.out.mono ?_
      rintro e w3 ⟨rfl, hk3, hb3⟩
      have HQ : Hid (∀ w, Below w3.heap.size w3 w → Calls Tryz.prog 10 #[.slice (some ⟨w2.heap.size, 0, none⟩) L nv, .slice (some ⟨w2.heap.size + 1, 0, none⟩) L nv, .int .i64 (L : Nat)] w fun e w' => e = .returned (.string zr) ∧ Below w.heap.size w w') := by
        have hka := kv_at HLL.out hk3 HTL.out
        refine Lib.hid fun w hb => ?_
        have hB3 : Below W.heap.size W w := HB2.out.trans ((hb3.trans (hb.mono hb3.size)).mono HB2.out.size)
        rw [← HZR.out]
        exact zzPairs_any _ _ L L L (Nat.le_refl _) (Nat.le_refl _) HTS.out.1 HTS.out.2 (Nat.le_trans HTL.out (by omega)) _ _ W.heap.size w hB3.size (HDR.out.on hB3) (HTAB.out.on hB3) (hka.1.later hb) (hka.2.later hb) l (by rw [HAG.out]; exact HL.out)
      have HB3 := Lib.hid hb3
      clear hk3 hb3 HLP
      go_wp2_with fail
      refine (HP.out w3 HB3.out).mono ?_
      rintro e w4 ⟨rfl, hb4⟩
      have HB4 := Lib.hid hb4
      clear hb4
      go_wp2_with fail
      refine (HQ.out w4 HB4.out).mono ?_
      rintro e w5 ⟨rfl, hb5⟩
      have HB5 := Lib.hid (HB3.out.trans ((HB4.out.trans (hb5.mono HB4.out.size)).mono HB3.out.size))
      clear hb5
      go_wp2_with fail
      refine (HP.out w5 HB5.out).mono ?_
      rintro e w6 ⟨rfl, hb6⟩
      have HB6 := Lib.hid (HB5.out.trans (hb6.mono HB5.out.size))
      clear hb6
      go_wp2_with fail
      refine (zzNil_any w6).mono ?_
      rintro e w7 ⟨rfl, hb7⟩
      have HB7 := Lib.hid (HB6.out.trans (hb7.mono HB6.out.size))
      clear hb7
      go_wp2_with fail
      refine (HE0.out w7 HB7.out).mono ?_
      rintro e w8 ⟨rfl, hb8⟩
      have HB8 := Lib.hid (HB7.out.trans (hb8.mono HB7.out.size))
      clear hb8
      go_wp2
      go_ret
      exact ⟨rfl, HB2.out.trans (HB8.out.mono HB2.out.size)⟩
    · have HLP := Lib.hid (lastPairs_any zs vs nk nv nk (by omega) (by omega) (by omega) _ _ w2 HV2.out HU2.out)
      obtain ⟨l, hl⟩ := obj_exists (kzOf zs) (vzOf vs) nk
      have HL := Lib.hid hl
      have HP := Lib.hid (HEXL.out nk (by omega) (by omega) (by omega) l hl)
      have HTS := Lib.hid (told_sizes (vs := vs) HZS.out HVS.out nk)
      have HAG := Lib.hid (lastv_again (kzOf zs) (vzOf vs) nk (told (kzOf zs) (vzOf vs) nk nk) rfl _ _ (kz_map _) (vz_map _))
      have HTL := Lib.hid (told_len (kzOf zs) (vzOf vs) nk nk)
      clear hl
      obtain ⟨tl, htl⟩ : ∃ tl, told (kzOf zs) (vzOf vs) nk nk = tl := ⟨_, rfl⟩
      rw [htl] at HLP HTS HAG HTL
      clear htl
      obtain ⟨L, hL⟩ : ∃ L, tl.length = L := ⟨_, rfl⟩
      rw [hL] at HLP HAG HTL
      have HLL := Lib.hid hL
      clear hL
      obtain ⟨zr, hzr⟩ : ∃ zr, objB l = zr := ⟨_, rfl⟩
      rw [hzr] at HP
      have HZR := Lib.hid hzr
      clear hzr
      go_wp2_with fail
      refine HLP.out.mono ?_
      rintro e w3 ⟨rfl, hk3, hb3⟩
      have HQ : Hid (∀ w, Below w3.heap.size w3 w → Calls Tryz.prog 10 #[.slice (some ⟨w2.heap.size, 0, none⟩) L nk, .slice (some ⟨w2.heap.size + 1, 0, none⟩) L nk, .int .i64 (L : Nat)] w fun e w' => e = .returned (.string zr) ∧ Below w.heap.size w w') := by
        have hka := kv_at HLL.out hk3 HTL.out
        refine Lib.hid fun w hb => ?_
        have hB3 : Below W.heap.size W w := HB2.out.trans ((hb3.trans (hb.mono hb3.size)).mono HB2.out.size)
        rw [← HZR.out]
        exact zzPairs_any _ _ L L L (Nat.le_refl _) (Nat.le_refl _) HTS.out.1 HTS.out.2 (Nat.le_trans HTL.out (by omega)) _ _ W.heap.size w hB3.size (HDR.out.on hB3) (HTAB.out.on hB3) (hka.1.later hb) (hka.2.later hb) l (by rw [HAG.out]; exact HL.out)
      have HB3 := Lib.hid hb3
      clear hk3 hb3 HLP
      go_wp2_with fail
      refine (HP.out w3 HB3.out).mono ?_
      rintro e w4 ⟨rfl, hb4⟩
      have HB4 := Lib.hid hb4
      clear hb4
      go_wp2_with fail
      refine (HQ.out w4 HB4.out).mono ?_
      rintro e w5 ⟨rfl, hb5⟩
      have HB5 := Lib.hid (HB3.out.trans ((HB4.out.trans (hb5.mono HB4.out.size)).mono HB3.out.size))
      clear hb5
      go_wp2_with fail
      refine (HP.out w5 HB5.out).mono ?_
      rintro e w6 ⟨rfl, hb6⟩
      have HB6 := Lib.hid (HB5.out.trans (hb6.mono HB5.out.size))
      clear hb6
      go_wp2_with fail
      refine (zzNil_any w6).mono ?_
      rintro e w7 ⟨rfl, hb7⟩
      have HB7 := Lib.hid (HB6.out.trans (hb7.mono HB6.out.size))
      clear hb7
      go_wp2_with fail
      refine (HE0.out w7 HB7.out).mono ?_
      rintro e w8 ⟨rfl, hb8⟩
      have HB8 := Lib.hid (HB7.out.trans (hb8.mono HB7.out.size))
      clear hb8
      go_wp2
      go_ret
      exact ⟨rfl, HB2.out.trans (HB8.out.mono HB2.out.size)⟩
end Go.Proofs.YtngdcnljbfkneaaGreatFmt
