/- Contracts: the wrapper that fills a map from pairs and encodes it; the nil map. -/
import Derived.Test.YtngdcnljbfkneaaGreatFmtObjN
import Derived.Test.YtngdcnljbfkneaaGreatFmtObjL
import Derived.StillTailTactics
namespace Go.Proofs.YtngdcnljbfkneaaGreatFmt
open Go.RowKit Go.Deep Go.Lib Go.Sort Go.ObjP Go.Shelf

def objB (l : List KV) : ByteArray := ⟨(objL l).toArray⟩
theorem obj_start (wr : World) (C : Array Value) (h1 : C.size = 65) (h2 : C[0]? = some (.iface 37 (.pointer (some ⟨wr.heap.size, 0, none⟩)))) :
    EncAt wr.heap.size wr.heap.size (wr.heap.size + 1) [] ((wr.alloc (.cells #[.pointer none, .slice none 0 0] 39)).alloc (.cells C 44)) ((wr.alloc (.cells #[.pointer none, .slice none 0 0] 39)).alloc (.cells C 44)) := by
  refine ⟨?_, ?_, Keep.refl _ _⟩
  · exact Lib.IsBuilderF.alloc (show Lib.IsBuilderF 39 5 wr.heap.size wr.heap.size [] _ from (Lib.fresh_isBuilder 39 5 wr).imp Lib.BuilderAtF.of Lib.BuilderAtF.of) _
  · refine ⟨C, ?_, h1, h2, fun j b hj => by simp at hj⟩
    rw [← Go.Deep.nblk_alloc wr (.cells #[.pointer none, .slice none 0 0] 39)]
    exact heap_alloc_new _ _
theorem run_makeMapN (w : World) (n : Int) : (Instr.makeMap 36 (some (.int .i64 n))).run Tryz.prog w = .ok (.map (some w.heap.size)) (w.alloc (.map #[] 0)) := by
  simp [Instr.makeMap, run_underlying Tryz.underlying36, asInt, asIntOf, newObj]
  rfl
theorem lastv_in64 {zs : List ByteArray} {vs : List Int} (hz : Sizes zs) (hv : ∀ i, In64 (vs.getD i 0)) {n : Nat} {k : Key} {v : Int} (h : lastv (kzOf zs) (vzOf vs) n k = some v) : k.length ≤ 1048576 ∧ In64 v := by
  obtain ⟨i, _, rfl, rfl⟩ := lastv_some _ _ h
  exact ⟨hz i, hv i⟩

set_option maxRecDepth 100000 in
set_option maxHeartbeats 4000000 in
theorem zzPairs_any (zs : List ByteArray) (vs : List Int) (nk nv n : Nat) (h1 : n ≤ nk) (h2 : n ≤ nv) (hz : Sizes zs) (hvs : ∀ i, In64 (vs.getD i 0)) (hnb : n ≤ 4096) (v u : Value) (B : Nat) (W : World) (hB : B ≤ W.heap.size) (hdr : DrBelow B W)
    (htab : Lib.TabBelow Tryz.prog B W "internal/strconv.uint64pow10" .u64 Lib.pow10Tab) (hv : Cells.At W v (StrF zs) nk) (hu : Cells.At W u (IntF vs) nv)
    (l : List KV) (hl : IsObj (lastv (kzOf zs) (vzOf vs) n) l) :
    Calls Tryz.prog 10 #[v, u, .int .i64 n] W fun e w' => e = .returned (.string (objB l)) ∧ Below W.heap.size W w' := by
  obtain ⟨a, cap, rfl, hcc⟩ := hv
  obtain ⟨av, capv, rfl, hcv⟩ := hu
  have HC := Lib.hid hcc
  have HV := Lib.hid hcv
  have HZ := Lib.hid hz
  have HVS := Lib.hid hvs
  have HDR := Lib.hid hdr
  have HTAB := Lib.hid htab
  have HL := Lib.hid hl
  clear hcc hcv hz hvs hdr htab hl
  have hmm := run_makeMapN
  have hS : Hid (Below W.heap.size W (W.alloc (.map #[] 0)) ∧ MapIs (W.alloc (.map #[] 0)) W.heap.size 0 (lastv (kzOf zs) (vzOf vs) 0)) := Lib.hid ⟨(Below.refl _ _).alloc (Nat.le_refl _) _, mapIs_made W _ _⟩
  -- what follows the map's making
  have tail : ∀ (wr : World) (C : Array Value), Below W.heap.size W wr → MapIs wr W.heap.size n (lastv (kzOf zs) (vzOf vs) n) → C.size = 65 → C[0]? = some (.iface 37 (.pointer (some ⟨wr.heap.size, 0, none⟩))) →
      Calls Tryz.prog 16 #[.pointer (some ⟨wr.heap.size + 1, 0, none⟩), .map (some W.heap.size)] ((wr.alloc (.cells #[.pointer none, .slice none 0 0] 39)).alloc (.cells C 44))
        fun e w' => e = .returned (.tuple #[]) ∧ Lib.IsBuilderF 39 5 wr.heap.size wr.heap.size (Lib.byteCells (objL l)) w' ∧ Below wr.heap.size wr w' := by
    intro wr C hbw hm hC1 hC2
    have h2 : Below wr.heap.size wr ((wr.alloc (.cells #[.pointer none, .slice none 0 0] 39)).alloc (.cells C 44)) := ((Below.refl _ _).alloc (Nat.le_refl _) _).alloc (by rw [Go.Deep.nblk_alloc]; omega) _
    have hBr : B ≤ wr.heap.size := Nat.le_trans hB hbw.size
    refine (encodeObject_any (lastv (kzOf zs) (vzOf vs) n) W.heap.size n wr.heap.size wr.heap.size (wr.heap.size + 1) _ h2.size (Nat.le_succ _) (Nat.succ_ne_self _) hm.lt hnb (hm.kept (h2.block _ hm.lt)) (fun k v h => lastv_in64 HZ.out HVS.out h) (obj_start wr C hC1 hC2) ?_ ?_ l HL.out).mono fun e w' ⟨he, h3⟩ => ⟨he, h3.1, h2.trans h3.2.2.toBelow⟩
    · exact fun w' hb => (HDR.out.on ((hbw.mono hB).trans (h2.mono hBr))) w' (hb.mono hBr)
    · exact fun w' hb => (HTAB.out.on ((hbw.mono hB).trans (h2.mono hBr))) w' (hb.mono hBr)
  have HTAIL := Lib.hid tail
  clear tail
  go_enter Tryz.func10, Tryz.ntmps10
  go_wp2
  go_loopw [8] (fun i wr => ∃ k : Nat, k ≤ n ∧ i = .int .i64 k ∧ Hid (Below W.heap.size W wr ∧ MapIs wr W.heap.size k (lastv (kzOf zs) (vzOf vs) k))) (fun i _ => n - (intOf i).toNat)
  case atStart => exact ⟨0, Nat.zero_le _, rfl, hS⟩
  case round =>
    obtain ⟨k, hk, rfl, HR⟩ := hrel
    by_cases hlt : k < n
    · obtain ⟨b, off, hx, hbl, hcell⟩ := HC.out (by omega)
      cases hx
      obtain ⟨bv, offv, hxv, hblv, hcellv⟩ := HV.out (by omega)
      cases hxv
      have hcx : wr.cell? ⟨b, off + k, none⟩ = some (.string (zs.getD k ByteArray.empty)) := (HR.out.1.cell (p := ⟨b, off + k, none⟩) hbl).trans (hcell k (by omega))
      have hcy : wr.cell? ⟨bv, offv + k, none⟩ = some (.int .i64 (vs.getD k 0)) := (HR.out.1.cell (p := ⟨bv, offv + k, none⟩) hblv).trans (hcellv k (by omega))
      have hwf : (Lit.int .i64 (vs.getD k 0)).wf = true := by
        have := HVS.out k
        exact WalkArith.wf_i64 this
      have hmx : (zs.getD k ByteArray.empty).size ≤ maxLen := Nat.le_trans (HZ.out k) (by decide)
      have hkz : kzOf zs k = (zs.getD k ByteArray.empty).data.toList := rfl
      have hvz : vzOf vs k = vs.getD k 0 := rfl
      clear hcell hcellv
      obtain ⟨z, hz⟩ : ∃ z, zs.getD k ByteArray.empty = z := ⟨_, rfl⟩
      obtain ⟨y, hy⟩ : ∃ y, vs.getD k 0 = y := ⟨_, rfl⟩
      rw [hz] at hcx hmx hkz
      rw [hy] at hcy hwf hvz
      have HKZ := Lib.hid hkz
      have HVZ := Lib.hid hvz
      have HWF := Lib.hid hwf
      have HMX := Lib.hid hmx
      obtain ⟨D, hown, htl⟩ := HR.out.2
      have HOWN := Lib.hid hown
      have HTL := Lib.hid htl
      have hknk : k < nk := by omega
      have hknv : k < nv := by omega
      clear hz hy hkz hvz hwf hmx hown htl
      go_wp2
      go_still_tail 10, (by kernel_rfl)
      go_wp2_with (at_mapUpdate; refine wpList_mapUpdate_own _ rfl _ _ _ 36 rfl 9 20 keyLaw Tryz.underlying36 rInt W.heap.size k D rfl (by exact HOWN.out) (by unfold maxLen; omega) _ _ _ rfl rfl (Go.WideMaps.keyOf_string_mk Tryz.underlying9 HMX.out) _ [] (rInt_mk HWF.out) ?_; intro w1 hown1 hgrow1)
      go_wp2
      go_roundw
      case rel => exact ⟨k + 1, by omega, by go_num, Lib.hid ⟨(HR.out.1.trans (below_drewN _ _ _)).grown hgrow1 HR.out.1.size (fun j hj => by cases hj; exact Nat.le_refl _), mapIs_put HOWN.out HTL.out (by rw [HKZ.out, HVZ.out]) hown1⟩⟩
      case measure => simp [intOf]; omega
    · obtain rfl : n = k := by omega
      go_wp2_with fail
      refine (HTAIL.out wr _ HR.out.1 HR.out.2 rfl rfl).mono ?_
      rintro e w1 ⟨rfl, hB1, hb1⟩
      have HS := Lib.hid (Tryz.Builder_String_any_k wr.heap.size wr.heap.size (objL l) w1 hB1 hb1.size)
      have HB1 := Lib.hid (HR.out.1.trans (hb1.mono HR.out.1.size))
      have HB2 := Lib.hid HR.out.1.size
      clear hB1 hb1
      go_wp2_with (go_at_call 17; refine HS.out.mono ?_; rintro e w2 ⟨rfl, _, hb3, _⟩)
      go_ret
      exact ⟨rfl, HB1.out.trans (hb3.mono HB2.out)⟩

set_option maxRecDepth 100000 in
set_option maxHeartbeats 4000000 in
theorem zzNil_any (W : World) : Calls Tryz.prog 11 #[] W fun e w' => e = .returned (.string ⟨#[123, 125]⟩) ∧ Below W.heap.size W w' := by
  have HT : Hid (∀ (C : Array Value), C.size = 65 → C[0]? = some (.iface 37 (.pointer (some ⟨W.heap.size, 0, none⟩))) →
      Calls Tryz.prog 16 #[.pointer (some ⟨W.heap.size + 1, 0, none⟩), .map none] ((W.alloc (.cells #[.pointer none, .slice none 0 0] 39)).alloc (.cells C 44))
        fun e w' => e = .returned (.tuple #[]) ∧ Lib.IsBuilderF 39 5 W.heap.size W.heap.size (Lib.byteCells (objL [])) w' ∧ Below W.heap.size W w') := Lib.hid fun C hC1 hC2 => by
    have h2 : Below W.heap.size W ((W.alloc (.cells #[.pointer none, .slice none 0 0] 39)).alloc (.cells C 44)) := ((Below.refl _ _).alloc (Nat.le_refl _) _).alloc (by rw [Go.Deep.nblk_alloc]; omega) _
    exact (encodeObject_nil W.heap.size W.heap.size (W.heap.size + 1) _ h2.size (Nat.succ_ne_self _) (obj_start W C hC1 hC2)).mono fun e w' ⟨he, h3⟩ => ⟨he, h3.1, h2.trans h3.2.2.toBelow⟩
  go_enter Tryz.func11, Tryz.ntmps11
  go_wp2_with fail
  refine (HT.out _ rfl rfl).mono ?_
  rintro e w1 ⟨rfl, hB1, hb1⟩
  have HS := Lib.hid (Tryz.Builder_String_any_k W.heap.size W.heap.size (objL []) w1 hB1 hb1.size)
  have HB1 := Lib.hid hb1
  clear hB1 hb1
  go_wp2_with (go_at_call 17; refine HS.out.mono ?_; rintro e w2 ⟨rfl, _, hb3, _⟩)
  go_ret
  exact ⟨rfl, HB1.out.trans hb3⟩
end Go.Proofs.YtngdcnljbfkneaaGreatFmt
