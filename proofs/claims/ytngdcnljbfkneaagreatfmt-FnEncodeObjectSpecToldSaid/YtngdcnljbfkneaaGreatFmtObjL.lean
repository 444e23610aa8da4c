/- Contracts: the pairs told from behind, each key once. -/
import Derived.Test.YtngdcnljbfkneaaGreatFmtObjD
namespace Go.Proofs.YtngdcnljbfkneaaGreatFmt
open Go.RowKit Go.Deep Go.Lib Go.Sort Go.ObjP

/-! ### the pairs told from behind -/
/-- Two rows of room for cap pairs: the first L places hold what g says. -/
structure KVRows (B1 B2 cap L : Nat) (g : Nat → KV) (w : World) : Prop where
  rk : w.rowIs B1 9 cap (Cells.fill (fun j => encStr (g j).1) (.string ByteArray.empty) L)
  rv : w.rowIs B2 3 cap (Cells.fill (fun j => .int .i64 (g j).2) (.int .i64 0) L)
section
variable {P : Program} {w : World} {ops : Array Oper} {rest : List Oper} {o : Oper} {a : Act} {Q : Exit → Act → World → Prop}
theorem wpList_app_room (hgd : o.guard = none) (sl x : Operand) (t : TypeId) (ho : o.op = .call { callee := .builtin .append, args := #[sl, x], argTypes := #[t, t] })
    (e : TypeId) (ht : P.underlying t = some (.slice e)) (z : Value) (nb : Nat) (hinfo : (P.info? e).map (fun i => (i.zero, i.size, i.bytes)) = some (some z, 1, nb))
    (T : TypeId) (b cap k : Nat) (F : Nat → Value) (z0 : Value) (hs : a.eval sl = .slice (some ⟨b, 0, none⟩) k cap) (hR : w.rowIs b T cap (Cells.fill F z0 k)) (hk : k < cap)
    (ad : Addr) (c : Nat) (u : Value) (hx : a.eval x = .slice (some ad) 1 c) (hc : ∀ (j : Nat) (v : Value), [u][j]? = some v → w.cell? (ad.add j) = some v) (hu : u.oneCell' = true) (hf : u = F k)
    (h : ∀ w', w'.rowIs b T cap (Cells.fill F z0 (k + 1)) → Only b w w' → wpList P ops Q rest (a.put o.dst (.slice (some ⟨b, 0, none⟩) (k + 1) cap)) w') : wpList P ops Q (o :: rest) a w := by
  obtain ⟨i, hi, hz, h1, h2⟩ := info_parts hinfo
  obtain ⟨cur, hb, hsz, hcur⟩ := hR
  have hr := run_app_off (P := P) w t o.type e T i ht hi h1 b 0 k cap cur hb ad 1 c [u] rfl hc (fun v hv => by simp at hv; subst hv; exact hu) (by omega) (by omega)
  refine wpList_plain hgd fun K hK => ?_
  unfold Oper.wp execOp
  simp only [ho, resolve, invoke, builtin, Sem.run_bind, Sem.run_pure, Result.andThen_ok, List.map_toArray, List.map_cons, List.map_nil, hs, hx, hr]
  refine hK _ _ (h _ ⟨_, setRow_heap w b cur _ T (0, 0) hb, ?_, fun j hj => ?_⟩ (Only.of_setRow _))
  · have : cur.toList.length = cap := by simpa using hsz
    simp only [List.size_toArray, List.length_append, List.length_take, List.length_drop, List.length_singleton, this]
    omega
  · have hl : cur.toList.length = cap := by simpa using hsz
    have htl : (cur.toList.take (0 + k)).length = k := by rw [List.length_take]; omega
    rw [List.getElem?_toArray]
    by_cases c1 : j < k
    · rw [List.append_assoc, List.getElem?_append_left (by omega), List.getElem?_take_of_lt (by omega), Array.getElem?_toList, hcur j hj]
      unfold Cells.fill
      rw [if_pos c1, if_pos (by omega)]
    · by_cases c2 : j = k
      · subst c2
        rw [List.getElem?_append_left (by rw [List.length_append, htl]; simp), List.getElem?_append_right (by omega), htl, Nat.sub_self]
        unfold Cells.fill
        rw [if_pos (by omega), hf]
        rfl
      · rw [List.getElem?_append_right (by rw [List.length_append, htl, List.length_singleton]; omega), List.length_append, htl, List.length_singleton, List.getElem?_drop, Array.getElem?_toList,
          show 0 + k + 1 + (j - (k + 1)) = j from by omega, hcur j hj]
        unfold Cells.fill
        rw [if_neg c1, if_neg (by omega)]
end
theorem run_make_cap {P : Program} (t e : TypeId) (z : Value) (bytes : Nat) (ht : P.underlying t = some (.slice e)) (hinfo : (P.info? e).map (fun i => (i.zero, i.size, i.bytes)) = some (some z, 1, bytes)) (hz1 : z.cells = #[z])
    (kl kc : IntKind) (n : Nat) (hbytes : bytes * n ≤ 281474976710656) (h63 : n ≤ 9223372036854775807) (w : World) :
    (Instr.makeSlice t (.int kl 0) (.int kc (n : Int))).run P w = .ok (.slice (some ⟨w.heap.size, 0, none⟩) 0 n) (w.alloc (.cells (madeCells #[z] n) e)) := by
  obtain ⟨i, hi, hzz⟩ := Option.map_eq_some_iff.1 hinfo
  simp only [Prod.mk.injEq] at hzz
  obtain ⟨hz, hs, hb⟩ := hzz
  have hb' : (i.bytes : Int) * (n : Int) ≤ 281474976710656 := by
    have h : ((i.bytes * n : Nat) : Int) ≤ 281474976710656 := by rw [hb]; omega
    rwa [Int.natCast_mul] at h
  have hr := run_make (P := P) w t e i z ht hi hz kl kc 0 n (Int.le_refl _) (by omega) hb' (by omega)
  simp only [Int.toNat_zero, Int.toNat_natCast, hs, Nat.mul_one, hz1] at hr
  exact hr
theorem below_two' (wr : World) (o1 o2 : Obj) : Below wr.heap.size wr ((wr.alloc o1).alloc o2) := ((Below.refl _ _).alloc (Nat.le_refl _) _).alloc (by rw [Go.Deep.nblk_alloc]; omega) _
def gOf (l : List KV) : Nat → KV := fun j => l.getD j ([], 0)
theorem fill_congr {w : World} {b : Nat} {T : TypeId} {n L : Nat} {F G : Nat → Value} {z : Value} (h : w.rowIs b T n (Cells.fill F z L)) (he : ∀ j, j < L → F j = G j) : w.rowIs b T n (Cells.fill G z L) := by
  refine h.congr fun j _ => ?_
  unfold Cells.fill
  split
  · rename_i c; exact he j c
  · rfl
theorem gOf_app (l : List KV) (p : KV) {j : Nat} (hj : j < l.length) : gOf (l ++ [p]) j = gOf l j := by
  unfold gOf
  rw [List.getD_eq_getElem?_getD, List.getD_eq_getElem?_getD, List.getElem?_append_left hj]
theorem gOf_new (l : List KV) (p : KV) : gOf (l ++ [p]) l.length = p := by
  unfold gOf
  rw [List.getD_eq_getElem?_getD, List.getElem?_append_right (Nat.le_refl _), Nat.sub_self]
  rfl
set_option maxRecDepth 100000 in
set_option maxHeartbeats 8000000 in
theorem lastPairs_any (zs : List ByteArray) (vs : List Int) (nk nv n : Nat) (h1 : n ≤ nk) (h2 : n ≤ nv) (hnb : n ≤ 4096) (v u : Value) (W : World) (hv : Cells.At W v (StrF zs) nk) (hu : Cells.At W u (IntF vs) nv) :
    Calls Tryz.prog 9 #[v, u, .int .i64 n] W fun e w' => e = .returned (.tuple #[.slice (some ⟨W.heap.size, 0, none⟩) (told (kzOf zs) (vzOf vs) n n).length n, .slice (some ⟨W.heap.size + 1, 0, none⟩) (told (kzOf zs) (vzOf vs) n n).length n]) ∧
      KVRows W.heap.size (W.heap.size + 1) n (told (kzOf zs) (vzOf vs) n n).length (gOf (told (kzOf zs) (vzOf vs) n n)) w' ∧ Below W.heap.size W w' := by
  obtain ⟨a, cap, rfl, hcc⟩ := hv
  obtain ⟨av, capv, rfl, hcv⟩ := hu
  have HC := Lib.hid hcc
  have HV := Lib.hid hcv
  clear hcc hcv
  have hm1 := fun w => run_make_cap (P := Tryz.prog) 22 9 (.string ByteArray.empty) 16 Tryz.underlying22 info_strI rfl .i64 .i64 n (by omega) (by omega) w
  have hm2 := fun w => run_make_cap (P := Tryz.prog) 23 3 (.int .i64 0) 8 Tryz.underlying23 info_intI rfl .i64 .i64 n (by omega) (by omega) w
  obtain ⟨U, hU⟩ : ∃ U, U = W.heap.size := ⟨_, rfl⟩
  have hS : Hid (Below U W ((W.alloc (.cells (madeCells #[.string ByteArray.empty] n) 9)).alloc (.cells (madeCells #[.int .i64 0] n) 3)) ∧
      KVRows U (U + 1) n 0 (gOf []) ((W.alloc (.cells (madeCells #[.string ByteArray.empty] n) 9)).alloc (.cells (madeCells #[.int .i64 0] n) 3))) := by
    subst hU
    refine Lib.hid ⟨below_two' W _ _, ⟨?_, ?_⟩⟩
    · exact (Cells.fill_start (World.rowIs_made W _ n _)).alloc _
    · have := Cells.fill_start (f := fun j => .int .i64 (gOf [] j).2) (World.rowIs_made (W.alloc (.cells (madeCells #[.string ByteArray.empty] n) 9)) (.int .i64 0) n 3)
      rwa [Go.Deep.nblk_alloc] at this
  rw [← hU]
  have HU := Lib.hid hU
  clear hU
  have HN := Lib.hid hnb
  have hn63 : (n : Int) ≤ 4096 := by omega
  go_enter Tryz.func9, Tryz.ntmps9
  go_wp2
  rw [← HU.out]
  go_loopw [8, 9, 10] (fun v8 v9 v10 wr => ∃ r L : Nat, r ≤ n ∧ L ≤ n - r ∧ v8 = .slice (some ⟨U, 0, none⟩) L n ∧ v9 = .slice (some ⟨U + 1, 0, none⟩) L n ∧ v10 = .int .i64 ((r : Int) - 1) ∧
      Hid ((told (kzOf zs) (vzOf vs) n (n - r)).length = L ∧ KVRows U (U + 1) n L (gOf (told (kzOf zs) (vzOf vs) n (n - r))) wr ∧ Below U W wr)) (fun _ _ v10 _ => (intOf v10 + 1).toNat)
  case atStart => exact ⟨n, 0, Nat.le_refl _, Nat.zero_le _, rfl, rfl, rfl, Lib.hid (by rw [Nat.sub_self]; exact ⟨rfl, hS.out.2, hS.out.1⟩)⟩
  case round =>
    obtain ⟨r, L, hr, hL, rfl, rfl, rfl, HR⟩ := hrel
    cases r with
    | zero =>
      have HE := HR
      rw [Nat.sub_zero] at HE
      go_wp2
      go_returns
      rw [HE.out.1]
      exact ⟨rfl, HE.out.2.1, HE.out.2.2⟩
    | succ i =>
      rw [show ((i + 1 : Nat) : Int) - 1 = (i : Int) from by omega]
      obtain ⟨l, hl⟩ : ∃ l, told (kzOf zs) (vzOf vs) n (n - (i + 1)) = l := ⟨_, rfl⟩
      rw [hl] at HR
      have hstep : told (kzOf zs) (vzOf vs) n (n - i) = if kzOf zs i ∈ l.map Prod.fst then l else l ++ [(kzOf zs i, vzOf vs i)] := by
        rw [show n - i = (n - (i + 1)) + 1 from by omega]
        show (if kzOf zs (n - 1 - (n - (i + 1))) ∈ (told (kzOf zs) (vzOf vs) n (n - (i + 1))).map Prod.fst then _ else _) = _
        rw [show n - 1 - (n - (i + 1)) = i from by omega, hl]
      have HSTEP := Lib.hid hstep
      clear hstep hl
      obtain ⟨b, off, hx, hbl, hcell⟩ := HC.out (by omega)
      cases hx
      obtain ⟨bv, offv, hxv, hblv, hcellv⟩ := HV.out (by omega)
      cases hxv
      have hcx : wr.cell? ⟨b, off + i, none⟩ = some (.string (zs.getD i ByteArray.empty)) := (HR.out.2.2.cell (p := ⟨b, off + i, none⟩) (by rw [HU.out]; exact hbl)).trans (hcell i (by omega))
      have hcy : wr.cell? ⟨bv, offv + i, none⟩ = some (.int .i64 (vs.getD i 0)) := (HR.out.2.2.cell (p := ⟨bv, offv + i, none⟩) (by rw [HU.out]; exact hblv)).trans (hcellv i (by omega))
      have HBV : Hid (bv < U) := Lib.hid (by rw [HU.out]; exact hblv)
      have hkz : kzOf zs i = (zs.getD i ByteArray.empty).data.toList := rfl
      have hvz : vzOf vs i = vs.getD i 0 := rfl
      clear hcell hcellv hbl hblv
      obtain ⟨z, hz⟩ : ∃ z, zs.getD i ByteArray.empty = z := ⟨_, rfl⟩
      obtain ⟨y, hy⟩ : ∃ y, vs.getD i 0 = y := ⟨_, rfl⟩
      rw [hz] at hcx hkz
      rw [hy] at hcy hvz
      rw [hkz, hvz] at HSTEP
      have HCX := Lib.hid hcx
      have HCY := Lib.hid hcy
      clear hz hy hkz hvz hcy
      go_wp2
      go_loopw [11, 12] (fun v11 v12 ws => ∃ j q : Nat, j ≤ L ∧ v11 = .bool false ∧ v12 = .int .i64 j ∧ ws = wr.drewN q ∧ Hid (∀ t, t < j → (gOf l t).1 ≠ z.data.toList)) (fun _ v12 _ => L - (intOf v12).toNat)
      case atStart => exact ⟨0, 0, Nat.zero_le _, rfl, rfl, rfl, Lib.hid fun t ht => absurd ht (Nat.not_lt_zero _)⟩
      case round =>
        obtain ⟨j, q, hj, rfl, rfl, rfl, HJ⟩ := hrel
        have HLL : Hid (l.length = L) := Lib.hid HR.out.1
        by_cases hlt : j < L
        · have hck : wr.cell? ⟨U, j, none⟩ = some (encStr (gOf l j).1) := Cells.fill_cell HR.out.2.1.rk (by omega) hlt
          obtain ⟨s, hs⟩ : ∃ s : ByteArray, ⟨(gOf l j).1.toArray⟩ = s := ⟨_, rfl⟩
          have hsl : s.data.toList = (gOf l j).1 := by rw [← hs]
          unfold encStr at hck
          rw [hs] at hck
          have HMEM : Hid ((gOf l j).1 ∈ l.map Prod.fst) := Lib.hid (by
            have hjl : j < l.length := by rw [HLL.out]; exact hlt
            unfold gOf
            rw [List.getD_eq_getElem?_getD, List.getElem?_eq_getElem hjl]
            exact List.mem_map_of_mem (List.getElem_mem hjl))
          by_cases he : (gOf l j).1 = z.data.toList
          · have heq : (s.toList == z.toList) = true := by rw [Lib.toList_data, Lib.toList_data, hsl, he]; simp
            have HTOLD : Hid (told (kzOf zs) (vzOf vs) n (n - i) = l) := Lib.hid (by rw [HSTEP.out, if_pos (he ▸ HMEM.out)])
            clear hs hsl he
            go_wp2
            go_quiet (fail)
            go_wp2
            go_roundw
            case rel => exact ⟨i, L, by omega, by omega, rfl, rfl, rfl, Lib.hid (by rw [HTOLD.out]; exact ⟨HR.out.1, ⟨HR.out.2.1.rk, HR.out.2.1.rv⟩, HR.out.2.2.trans (below_drewN _ _ _)⟩)⟩
            case measure => simp [intOf] <;> omega
          · have heq : (s.toList == z.toList) = false := by rw [Lib.toList_data, Lib.toList_data, hsl]; simpa using he
            have HNE := Lib.hid he
            clear hs hsl he
            go_wp2
            go_quiet (fail)
            go_wp2
            go_roundw
            case rel => exact ⟨j + 1, q + nq, by omega, rfl, by go_num, rfl, Lib.hid fun t ht => by
              by_cases e : t = j
              · rw [e]; exact HNE.out
              · exact HJ.out t (by omega)⟩
            case measure => simp [intOf] <;> omega
        · obtain rfl : j = L := by omega
          have HTOLD : Hid (told (kzOf zs) (vzOf vs) n (n - i) = l ++ [(z.data.toList, y)]) := Lib.hid (by
            rw [HSTEP.out, if_neg]
            intro hm
            obtain ⟨p, hp, hpe⟩ := List.mem_map.1 hm
            obtain ⟨t, ht, hte⟩ := List.getElem_of_mem hp
            refine HJ.out t (by rw [← HLL.out]; exact ht) ?_
            unfold gOf
            rw [List.getD_eq_getElem?_getD, List.getElem?_eq_getElem ht, ← hpe, ← hte]
            rfl)
          have hG1 : ∀ t, t < j → (fun t => encStr (gOf l t).1) t = (fun t => encStr (gOf (l ++ [(z.data.toList, y)]) t).1) t := fun t ht => by
            show encStr (gOf l t).1 = encStr (gOf (l ++ [(z.data.toList, y)]) t).1
            rw [gOf_app _ _ (by rw [HLL.out]; exact ht)]
          have hG2 : ∀ t, t < j → (fun t => Value.int .i64 (gOf l t).2) t = (fun t => Value.int .i64 (gOf (l ++ [(z.data.toList, y)]) t).2) t := fun t ht => by
            show Value.int .i64 (gOf l t).2 = .int .i64 (gOf (l ++ [(z.data.toList, y)]) t).2
            rw [gOf_app _ _ (by rw [HLL.out]; exact ht)]
          have HR1 := Lib.hid (fill_congr HR.out.2.1.rk hG1)
          have HR2 := Lib.hid (fill_congr HR.out.2.1.rv hG2)
          have HF1 : Hid (Value.string z = (fun t => encStr (gOf (l ++ [(z.data.toList, y)]) t).1) j) := Lib.hid (by
            show Value.string z = encStr (gOf (l ++ [(z.data.toList, y)]) j).1
            rw [← HLL.out, gOf_new])
          have HF2 : Hid (Value.int .i64 y = (fun t => Value.int .i64 (gOf (l ++ [(z.data.toList, y)]) t).2) j) := Lib.hid (by
            show Value.int .i64 y = .int .i64 (gOf (l ++ [(z.data.toList, y)]) j).2
            rw [← HLL.out, gOf_new])
          have HJN : Hid (j < n) := Lib.hid (by omega)
          clear hG1 hG2
          have HSZ : Hid (U ≤ wr.heap.size) := Lib.hid (by have := HR.out.2.2.size; rw [← HU.out] at this; exact this)
          have HWA : Hid (Below U wr ((wr.drewN q).alloc (.cells #[.string z] 9))) := Lib.hid ((below_drewN U wr q).alloc HSZ.out _)
          have HFIN : Hid (∀ w2 w3, w2.rowIs U 9 n (Cells.fill (fun t => encStr (gOf (l ++ [(z.data.toList, y)]) t).1) (.string ByteArray.empty) (j + 1)) → Only U ((wr.drewN q).alloc (.cells #[.string z] 9)) w2 → w3.rowIs (U + 1) 3 n (Cells.fill (fun t => .int .i64 (gOf (l ++ [(z.data.toList, y)]) t).2) (.int .i64 0) (j + 1)) →
              Only (U + 1) (w2.alloc (.cells #[.int .i64 y] 3)) w3 → (told (kzOf zs) (vzOf vs) n (n - i)).length = j + 1 ∧ KVRows U (U + 1) n (j + 1) (gOf (told (kzOf zs) (vzOf vs) n (n - i))) w3 ∧ Below U W w3) := Lib.hid fun w2 w3 hr2 ho2 hr3 ho3 => by
            rw [HTOLD.out]
            have b2 : Below U wr w2 := HWA.out.trans (ho2.below (Nat.le_refl _) (Nat.le_trans HSZ.out HWA.out.size))
            have b3 : Below U wr (w2.alloc (.cells #[.int .i64 y] 3)) := b2.alloc (Nat.le_trans HSZ.out b2.size) _
            refine ⟨by simp [HLL.out], ⟨?_, hr3⟩, HR.out.2.2.trans (b3.trans (ho3.below (Nat.le_succ _) (Nat.le_trans HSZ.out b3.size)))⟩
            exact (hr2.alloc _).of_block (ho3.block U (hr2.alloc _).lt (Nat.ne_of_lt (Nat.lt_succ_self U)))
          go_wp2_with (first
            | (at_builtin; refine wpList_app_room rfl _ _ 22 rfl 9 Tryz.underlying22 (.string ByteArray.empty) 16 info_strI 9 U n j _ _ rfl ((show (wr.drewN q).rowIs U 9 n _ from HR1.out).alloc _) HJN.out ⟨(wr.drewN q).heap.size, 0, none⟩ 1 (.string z) rfl (cell_one_new _ _ _) rfl HF1.out ?_; intro w2 hr2 ho2; have hcy2 : w2.cell? ⟨bv, offv + i, none⟩ = some (.int .i64 y) := (ho2.cell (p := ⟨bv, offv + i, none⟩) (Nat.lt_of_lt_of_le HBV.out (Nat.le_trans HSZ.out HWA.out.size)) (Nat.ne_of_lt HBV.out)).trans ((HWA.out.cell (p := ⟨bv, offv + i, none⟩) HBV.out).trans HCY.out))
            | (at_builtin; refine wpList_app_room rfl _ _ 23 rfl 3 Tryz.underlying23 (.int .i64 0) 8 info_intI 3 (U + 1) n j _ _ rfl ((((show (wr.drewN q).rowIs (U + 1) 3 n _ from HR2.out).alloc _).of_block (ho2.block (U + 1) ((show (wr.drewN q).rowIs (U + 1) 3 n _ from HR2.out).alloc _).lt (Nat.ne_of_gt (Nat.lt_succ_self U)))).alloc _) HJN.out ⟨w2.heap.size, 0, none⟩ 1 (.int .i64 y) rfl (cell_one_new _ _ _) rfl HF2.out ?_; intro w3 hr3 ho3))
          go_wp2
          go_roundw
          case rel => exact ⟨i, j + 1, by omega, by omega, rfl, rfl, rfl, Lib.hid (HFIN.out w2 w3 hr2 ho2 hr3 ho3)⟩
          case measure => simp [intOf] <;> omega
end Go.Proofs.YtngdcnljbfkneaaGreatFmt
