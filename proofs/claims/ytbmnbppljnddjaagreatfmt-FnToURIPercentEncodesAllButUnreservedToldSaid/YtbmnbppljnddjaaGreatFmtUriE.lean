/- Contract: net/url's escape at the mode of a query's component. -/
import Derived.Test.YtbmnbppljnddjaaGreatFmtUriA
import Derived.Test.YtbmnbppljnddjaaGreatFmtOwn
import Derived.Test.YtbmnbppljnddjaaGreatFmtEncA
import Derived.Test.YtbmnbppljnddjaaGreatFmtStr
import Derived.Lib.ConvBytes
import Derived.Laws.CopyRow
import Derived.WalkKit
import Derived.WalkSpells
import Derived.WalkSmall
import Derived.Deep.LoopGhost
import Derived.Deep.OwnRows
import Derived.Lib.Hide
import Derived.Lib.BufferMore
namespace Go.Proofs.YtbmnbppljnddjaaGreatFmt
open Go.RowKit Go.Deep

theorem run_copy_str {P : Program} (w : World) (dT sT ty elem : TypeId) (g o dLen dCap : Nat) (s : ByteArray) (m : List UInt8) (cur : Array Value) (t : TypeId)
    (hu : P.underlying dT = some (.slice elem)) (hs : (P.info? elem).map (·.size) = some 1) (hg : w.heap[g]? = some (.cells cur t (0, 0))) (hm : s.data.toList.take dLen = m) (hfit : o + m.length ≤ cur.size) :
    (Builtin.copy_ #[dT, sT] ty #[.slice (some ⟨g, o, none⟩) dLen dCap, .string s]).run P w =
      .ok (goInt m.length) (w.setRow g (cur.toList.take o ++ Lib.byteCells m ++ cur.toList.drop (o + m.length)).toArray) := by
  have hlen : (Lib.byteCells m).length = m.length := Own.byteCells_len m
  have hone : ∀ v ∈ Lib.byteCells m, v.oneCell' = true := by
    intro v hv
    simp only [Lib.byteCells, List.mem_map] at hv
    obtain ⟨b, _, rfl⟩ := hv
    rfl
  have hst := run_storeCells_at P g o t (Lib.byteCells m) 0 cur w hg (by rw [hlen]; simpa using hfit) hone
  have hsz : s.data.toList.length = s.size := rfl
  have hmin : m.length = Nat.min s.size dLen := by rw [← hm, List.length_take, hsz, Nat.min_comm]
  have htk : List.take (Nat.min s.size dLen) (List.map (fun b : UInt8 => Value.int IntKind.u8 (b.toNat : Int)) s.data.toList) = Lib.byteCells m := by
    rw [← List.map_take]
    unfold Lib.byteCells
    congr 1
    rw [← hm]
    by_cases c : s.size ≤ dLen
    · rw [List.take_of_length_le (by rw [hsz]; exact Nat.le_min.2 ⟨Nat.le_refl _, c⟩), List.take_of_length_le (by omega)]
    · rw [show Nat.min s.size dLen = dLen from Nat.min_eq_right (by omega)]
  rw [hlen] at hst
  simp only [Nat.add_zero] at hst
  cases hq : P.info? elem with
  | none => simp [hq] at hs
  | some i =>
    simp [Builtin.copy_, run_underlying hu, Builtin.lenOf, Builtin.firstCells, sizeOf, typeInfo, hq]
    rw [htk, hst]
    simp [Result.andThen, hmin]
/-- The first cells of block G, of CAP cells, are the bytes x. -/
def RowB (T : TypeId) (G CAP : Nat) (w : World) (x : List UInt8) : Prop :=
  ∃ cur : Array Value, w.heap[G]? = some (.cells cur T (0, 0)) ∧ cur.size = CAP ∧ ∀ (j : Nat) (b : UInt8), x[j]? = some b → cur[j]? = some (.int .u8 (b.toNat : Int))
theorem RowB.kept {T : TypeId} {G CAP : Nat} {w w' : World} {x : List UInt8} (h : RowB T G CAP w x) (hk : w'.heap[G]? = w.heap[G]?) : RowB T G CAP w' x := by
  obtain ⟨cur, a, b, c⟩ := h
  exact ⟨cur, hk.trans a, b, c⟩
theorem RowB.set {T : TypeId} {G CAP : Nat} {w : World} {x y : List UInt8} (h : RowB T G CAP w x) (i : Nat) (hi : i < CAP) (b : UInt8) (z : Int) (hz : (b.toNat : Int) = z)
    (hy : ∀ (j : Nat) (c : UInt8), y[j]? = some c → (j = i ∧ c = b) ∨ (j ≠ i ∧ x[j]? = some c)) : RowB T G CAP (w.setCell ⟨G, i, none⟩ (.int .u8 z)) y := by
  obtain ⟨cur, h1, h2, h3⟩ := h
  subst hz
  refine ⟨cur.setIfInBounds i (.int .u8 (b.toNat : Int)), Lib.heap_setCell_same h1 _, by simpa using h2, fun j c hj => ?_⟩
  rcases hy j c hj with ⟨rfl, rfl⟩ | ⟨hne, hx⟩
  · simp [h2, hi]
  · rw [Array.getElem?_setIfInBounds_ne (by omega)]
    exact h3 j c hx
theorem RowB.push {T : TypeId} {G CAP : Nat} {w : World} {x : List UInt8} (h : RowB T G CAP w x) (i : Nat) (hx : x.length = i) (hi : i < CAP) (b : UInt8) (z : Int) (hz : (b.toNat : Int) = z) : RowB T G CAP (w.setCell ⟨G, i, none⟩ (.int .u8 z)) (x ++ [b]) :=
  h.set i hi b z hz fun j c hj => by
    subst hx
    by_cases c1 : j < x.length
    · exact .inr ⟨by omega, by rwa [List.getElem?_append_left c1] at hj⟩
    · rw [List.getElem?_append_right (by omega)] at hj
      have hj0 : j - x.length = 0 := by
        have := (List.getElem?_eq_some_iff.1 hj).1
        simp at this
        omega
      rw [hj0] at hj
      exact .inl ⟨by omega, by simpa using hj.symm⟩
theorem RowB.put {T : TypeId} {G CAP : Nat} {w : World} {x : List UInt8} (h : RowB T G CAP w x) (i : Nat) (hx : i < x.length) (hi : i < CAP) (b : UInt8) (z : Int) (hz : (b.toNat : Int) = z) : RowB T G CAP (w.setCell ⟨G, i, none⟩ (.int .u8 z)) (x.set i b) :=
  h.set i hi b z hz fun j c hj => by
    by_cases c1 : j = i
    · subst c1
      rw [List.getElem?_set_self hx] at hj
      exact .inl ⟨rfl, by simpa using hj.symm⟩
    · exact .inr ⟨c1, by rwa [List.getElem?_set_ne (by omega)] at hj⟩
theorem RowB.cell {T : TypeId} {G CAP : Nat} {w : World} {x : List UInt8} (h : RowB T G CAP w x) (i : Nat) (hi : i < CAP) : ∃ v, w.cell? ⟨G, i, none⟩ = some v := by
  obtain ⟨cur, h1, h2, _⟩ := h
  rw [Lib.cell_of_heap h1]
  exact ⟨cur[i], by simp [show i < cur.size by omega]⟩
theorem RowB.frozen {T : TypeId} {G CAP : Nat} {w : World} {x : List UInt8} (h : RowB T G CAP w x) (i : Nat) : w.frozen? ⟨G, i, none⟩ = false := by
  obtain ⟨cur, h1, _, _⟩ := h
  exact Lib.frozen_of_heap h1 i
theorem Only.setCell {G : Nat} {w w' : World} (h : Only G w w') (i : Nat) (v : Value) : Only G w (w'.setCell ⟨G, i, none⟩ v) :=
  h.trans ⟨rfl, rfl, rfl, by rw [Go.Deep.nblk_setCell]; exact Nat.le_refl _, fun k _ hk => Below.heap_setCell _ _ _ _ hk⟩
theorem info_u8q : (Tryz.prog.info? 5).map (fun i => (i.zero, i.size, i.bytes)) = some (some (.int .u8 0), 1, 1) := by kernel_rfl
theorem info_u8z : (Tryz.prog.info? 5).map (·.size) = some 1 := by kernel_rfl
def UTab (W : World) : Prop := Lib.TabIs Tryz.prog W "net/url.table" .u8 urlTab
set_option maxHeartbeats 4000000 in
set_option maxRecDepth 100000 in
theorem escape_any (s : ByteArray) (n : Nat) (hn : s.size = n) (hsz : n ≤ 1048576) (W : World) (htab : ∀ w, Below W.heap.size W w → UTab w) :
    Calls Tryz.prog 35 #[.string s, .int .u8 32] W fun e w' => e = .returned (.string ⟨(s.data.toList.flatMap Uri.qF).toArray⟩) ∧ Below W.heap.size W w' := by
  have HTAB := Lib.hid htab
  obtain ⟨l, hll⟩ : ∃ l, s.data.toList = l := ⟨_, rfl⟩
  have HLL := Lib.hid hll
  have hl : l.length = n := by rw [← hll]; exact hn
  have hcv : ∀ w, (convert 9 26 (.string s)).run Tryz.prog w = .ok (.slice (some ⟨w.heap.size, 0, none⟩) n (grownCap w s.size 0 5)) (Lib.bytesWorld w 5 s) := fun w => by
    rw [← hn]
    exact Lib.run_convert_string_bytes w 9 26 5 s Tryz.underlying9 Tryz.underlying26 Tryz.underlying5
  clear htab hll
  have HSE : Hid (∀ (c : UInt8) (w : World), UTab w → Calls Tryz.prog 40 #[.int .u8 (c.toNat : Int), .int .u8 32] w fun e w' => e = .returned (.bool (!Uri.unr c.toNat)) ∧ w' = w) := Lib.hid fun c w h => shouldEscape_any c w h
  have hb1 : Below W.heap.size W (Lib.bytesWorld W 5 s) := ⟨rfl, rfl, rfl, by rw [Lib.bytesWorld_size]; omega, fun k hk => Lib.bytesWorld_at_old W _ s k hk⟩
  have hcell1 : ∀ k, k < n → (Lib.bytesWorld W 5 s).cell? ⟨W.heap.size, k, none⟩ = some (.int .u8 ((l.getD k 0).toNat : Int)) := fun k hk => by
    rw [← HLL.out]
    exact Lib.bytesWorld_cell W _ s k (by omega)
  obtain ⟨w1, hw1⟩ : ∃ w1, Lib.bytesWorld W 5 s = w1 := ⟨_, rfl⟩
  have hcvW := hcv W
  rw [hw1] at hb1 hcell1 hcvW
  have HB1 := Lib.hid hb1
  have HC1 := Lib.hid hcell1
  have HCV := Lib.hid hcv
  have HL := Lib.hid hl
  clear hcv hb1 hcell1 hl
  go_enter Tryz.func35, Tryz.ntmps35
  go_wp2
  go_loopw [5, 6, 19] (fun u v i wr => ∃ k : Nat, k ≤ n ∧ u = .int .i64 (Uri.spc l k) ∧ v = .int .i64 (Uri.hxc l k) ∧ i = .int .i64 k ∧ wr = w1) (fun _ _ i _ => n - (RowKit.intOf i).toNat)
  case atStart => exact ⟨0, Nat.zero_le _, by simp [Uri.spc], by simp [Uri.hxc], rfl, rfl⟩
  case round =>
    obtain ⟨k, hk, rfl, rfl, rfl, rfl⟩ := hrel
    by_cases hlt : k < n
    · have hci := HC1.out k hlt
      have hsp := Uri.spc_step l k (by rw [HL.out]; exact hlt)
      have hhx := Uri.hxc_step l k (by rw [HL.out]; exact hlt)
      have hsp0 := Uri.spc_le l k
      have hhx0 := Uri.hxc_le l k
      obtain ⟨c, hc⟩ : ∃ c, l.getD k 0 = c := ⟨_, rfl⟩
      rw [hc] at hci hsp hhx
      obtain ⟨p, hp⟩ : ∃ p, Uri.spc l k = p := ⟨_, rfl⟩
      obtain ⟨q, hq⟩ : ∃ q, Uri.hxc l k = q := ⟨_, rfl⟩
      rw [hp] at hsp hsp0 ⊢
      rw [hq] at hhx hhx0 ⊢
      have HS := HSE.out c
      obtain ⟨z, hz⟩ : ∃ z : Int, (c.toNat : Int) = z := ⟨_, rfl⟩
      rw [hz] at hci HS
      have HSz := Lib.hid HS
      clear HS hp hq hc
      by_cases c32 : c = 32
      · subst c32
        obtain rfl : z = 32 := hz.symm
        have hsp1 : Uri.spc l (k + 1) = p + 1 := by simpa using hsp
        have hhx1 : Uri.hxc l (k + 1) = q := by simpa using hhx
        have HR := Lib.hid (And.intro hsp1 hhx1)
        clear hsp hhx hsp1 hhx1 hz
        go_wp2_with (go_at_call 40; refine (HSz.out _ (HTAB.out _ HB1.out)).mono ?_; rintro e w2 ⟨rfl, rfl⟩)
        go_roundw
        case rel => exact ⟨k + 1, by omega, by rw [HR.out.1]; go_num, by rw [HR.out.2], by go_num, trivial⟩
        case measure => simp [RowKit.intOf]; omega
      · have z32 : (z == 32) = false := by
          rw [← hz]
          have : c.toNat ≠ 32 := fun h => c32 (by rw [← UInt8.toNat_inj]; exact h)
          simp
          omega
        have e32 : (c == 32) = false := by simpa using c32
        rw [e32] at hsp hhx
        cases hu : Uri.unr c.toNat with
        | true =>
          rw [hu] at hhx HSz
          have hsp1 : Uri.spc l (k + 1) = p := by simpa using hsp
          have hhx1 : Uri.hxc l (k + 1) = q := by simpa using hhx
          have HR := Lib.hid (And.intro hsp1 hhx1)
          clear hsp hhx hsp1 hhx1 hz e32 c32 hu
          go_wp2_with (go_at_call 40; refine (HSz.out _ (HTAB.out _ HB1.out)).mono ?_; rintro e w2 ⟨rfl, rfl⟩)
          go_roundw
          case rel => exact ⟨k + 1, by omega, by rw [HR.out.1], by rw [HR.out.2], by go_num, trivial⟩
          case measure => simp [RowKit.intOf]; omega
        | false =>
          rw [hu] at hhx HSz
          have hsp1 : Uri.spc l (k + 1) = p := by simpa using hsp
          have hhx1 : Uri.hxc l (k + 1) = q + 1 := by simpa using hhx
          have HR := Lib.hid (And.intro hsp1 hhx1)
          clear hsp hhx hsp1 hhx1 hz e32 c32 hu
          go_wp2_with (go_at_call 40; refine (HSz.out _ (HTAB.out _ HB1.out)).mono ?_; rintro e w2 ⟨rfl, rfl⟩)
          go_roundw
          case rel => exact ⟨k + 1, by omega, by rw [HR.out.1], by rw [HR.out.2]; go_num, by go_num, trivial⟩
          case measure => simp [RowKit.intOf]; omega
    · obtain rfl : k = n := by omega
      have hp0 := Uri.spc_le l k
      have hq0 := Uri.hxc_le l k
      have hqlen := Uri.q_length l k (by rw [HL.out]; exact Nat.le_refl _)
      rw [List.take_of_length_le (by rw [HL.out]; exact Nat.le_refl _)] at hqlen
      have HID : Uri.spc l k = 0 → Uri.hxc l k = 0 → l.flatMap Uri.qF = l := fun a b => Uri.q_id l (by rw [HL.out]; exact a) (by rw [HL.out]; exact b)
      have HMAP : Uri.hxc l k = 0 → l.flatMap Uri.qF = l.map Uri.pF := fun b => Uri.q_map l (by rw [HL.out]; exact b)
      obtain ⟨p, hp⟩ : ∃ p, Uri.spc l k = p := ⟨_, rfl⟩
      obtain ⟨q, hq⟩ : ∃ q, Uri.hxc l k = q := ⟨_, rfl⟩
      rw [hp] at hp0 HID ⊢
      rw [hq] at hq0 HID HMAP hqlen ⊢
      have HQL := Lib.hid hqlen
      have HIDD := Lib.hid HID
      have HMAPP := Lib.hid HMAP
      clear hp hq HID HMAP hqlen
      by_cases h00 : p = 0 ∧ q = 0
      · obtain ⟨rfl, rfl⟩ := h00
        go_wp2
        go_ret
        have e : (⟨(s.data.toList.flatMap Uri.qF).toArray⟩ : ByteArray) = s := by
          rw [HLL.out, show l.flatMap Uri.qF = l by simpa using HIDD.out, ← HLL.out]
        rw [e]
        exact ⟨rfl, HB1.out⟩
      · have hnz : (((p : Int) == 0) && ((q : Int) == 0)) = false := by
          simp
          omega
        obtain ⟨m, hm⟩ : ∃ m : Nat, k + 2 * q = m := ⟨_, rfl⟩
        have hmi : (k : Int) + 2 * (q : Int) = (m : Int) := by omega
        have hmb : m ≤ 3145728 := by omega
        rw [hm] at HQL
        rcases Nat.eq_zero_or_pos q with hqz | hqz
        · obtain rfl : m = k := by omega
          have hq1 : ((q : Int) == 0) = true := by simp [hqz]
          have HM := Lib.hid (HMAPP.out hqz)
          have hp1 : ((p : Int) == 0) = false := by simp; omega
          clear hm hqz
          by_cases h64 : m ≤ 64
          · have h64i : (m : Int) ≤ 64 := by omega
            go_wp2_with fail
            obtain ⟨w2, hw2⟩ : ∃ w2, wr.alloc (Obj.cells (List.toArray (Value.int .u8 0 :: Value.int .u8 0 :: Value.int .u8 0 :: Value.int .u8 0 :: Value.int .u8 0 :: Value.int .u8 0 :: Value.int .u8 0 :: Value.int .u8 0 :: Value.int .u8 0 :: Value.int .u8 0 :: Value.int .u8 0 :: Value.int .u8 0 :: Value.int .u8 0 :: Value.int .u8 0 :: Value.int .u8 0 :: Value.int .u8 0 :: Value.int .u8 0 :: Value.int .u8 0 :: Value.int .u8 0 :: Value.int .u8 0 :: Value.int .u8 0 :: Value.int .u8 0 :: Value.int .u8 0 :: Value.int .u8 0 :: Value.int .u8 0 :: Value.int .u8 0 :: Value.int .u8 0 :: Value.int .u8 0 :: Value.int .u8 0 :: Value.int .u8 0 :: Value.int .u8 0 :: Value.int .u8 0 :: Value.int .u8 0 :: Value.int .u8 0 :: Value.int .u8 0 :: Value.int .u8 0 :: Value.int .u8 0 :: Value.int .u8 0 :: Value.int .u8 0 :: Value.int .u8 0 :: Value.int .u8 0 :: Value.int .u8 0 :: Value.int .u8 0 :: Value.int .u8 0 :: Value.int .u8 0 :: Value.int .u8 0 :: Value.int .u8 0 :: Value.int .u8 0 :: Value.int .u8 0 :: Value.int .u8 0 :: Value.int .u8 0 :: Value.int .u8 0 :: Value.int .u8 0 :: Value.int .u8 0 :: Value.int .u8 0 :: Value.int .u8 0 :: Value.int .u8 0 :: Value.int .u8 0 :: Value.int .u8 0 :: Value.int .u8 0 :: Value.int .u8 0 :: Value.int .u8 0 :: Value.int .u8 0 :: Value.int .u8 0 :: [])) 61) = w2 := ⟨_, rfl⟩
            rw [hw2]
            have hrow : RowB 61 wr.heap.size 64 w2 [] := ⟨_, by rw [← hw2]; exact heap_alloc_new _ _, rfl, fun j b hj => by simp at hj⟩
            have hb2 : Below W.heap.size W w2 := by rw [← hw2]; exact HB1.out.alloc HB1.out.size _
            have hGs : wr.heap.size < w2.heap.size := by rw [← hw2, nblk_alloc]; omega
            have hGW := HB1.out.size
            have hfit : m ≤ 64 := h64
            obtain ⟨G, hG⟩ : ∃ G, wr.heap.size = G := ⟨_, rfl⟩
            rw [hG] at hrow hGs hGW ⊢
            clear hw2 hG
            have hcp : ∃ w3, (∀ ty, (Builtin.copy_ #[26, 9] ty #[.slice (some ⟨G, 0, none⟩) m 64, .string s]).run Tryz.prog w2 = .ok (goInt m) w3) ∧ RowB 61 G 64 w3 l ∧ Only G w2 w3 := by
              obtain ⟨cur, h1, h2, h3⟩ := hrow
              refine ⟨_, fun ty => ?_, ⟨_, setRow_heap w2 G cur (cur.toList.take 0 ++ Lib.byteCells l ++ cur.toList.drop (0 + l.length)).toArray 61 (0, 0) h1, ?_, fun j b hj => ?_⟩, Only.of_setRow _⟩
              · rw [run_copy_str (P := Tryz.prog) w2 26 9 ty 5 G 0 m 64 s l cur 61 Tryz.underlying26 info_u8z h1 (by rw [HLL.out, List.take_of_length_le (by rw [HL.out]; exact Nat.le_refl _)]) (by rw [HL.out, h2]; omega), HL.out]
              · simp [Own.byteCells_len, HL.out, h2]
                try omega
              · obtain ⟨hjl, rfl⟩ := List.getElem?_eq_some_iff.1 hj
                simp [Lib.byteCells, List.getElem?_append_left, hjl]
            obtain ⟨w3, hcp, hrow3, honly3⟩ := hcp
            have HR3 := Lib.hid hrow3
            have HO3 := Lib.hid honly3
            have HB2 := Lib.hid hb2
            clear hrow hrow3 honly3 hb2
            rw [hcp]
            go_simp
            go_wp2
            go_loopw [12] (fun iv wr => ∃ i : Nat, i ≤ m ∧ iv = .int .i64 i ∧ Hid (RowB 61 G 64 wr (Uri.mix l i)) ∧ Hid (Only G w3 wr)) (fun iv _ => m - (RowKit.intOf iv).toNat)
            case atStart => exact ⟨0, Nat.zero_le _, rfl, HR3, Lib.hid (Only.refl _ _)⟩
            case round =>
              obtain ⟨i, hi, rfl, HR, HO⟩ := hrel
              by_cases hlt : i < m
              · have hi0 := fun w => Str.idx_str (P := Tryz.prog) 9 Tryz.underlying9 s .i64 (i : Int) i rfl (by omega) w
                rw [HLL.out] at hi0
                have hms := Uri.mix_step l i (by rw [HL.out]; exact hlt)
                have hmsame := Uri.mix_same l i (by rw [HL.out]; exact hlt)
                obtain ⟨c, hc⟩ : ∃ c, l.getD i 0 = c := ⟨_, rfl⟩
                rw [hc] at hi0 hms hmsame
                obtain ⟨v, hv⟩ := HR.out.cell i (by omega)
                have hfz := HR.out.frozen i
                have HMS := Lib.hid hms
                have HMM := Lib.hid hmsame
                clear hc hms hmsame
                by_cases c32 : c = 32
                · subst c32
                  have hi1 : ∀ w, (Instr.index 9 (.string s) (.int .i64 (i : Int))).run Tryz.prog w = .ok (.int .u8 32) w := hi0
                  clear hi0
                  go_wp2
                  go_roundw
                  case rel => exact ⟨i + 1, by omega, by go_num, Lib.hid (by rw [HMS.out]; exact HR.out.put i (by rw [Uri.mix_len, HL.out]; exact hlt) (by omega) 43 43 rfl), Lib.hid (HO.out.setCell i _)⟩
                  case measure => simp [RowKit.intOf]; omega
                · obtain ⟨z, hz⟩ : ∃ z : Int, (c.toNat : Int) = z := ⟨_, rfl⟩
                  rw [hz] at hi0
                  have z32 : (z == 32) = false := by
                    rw [← hz]
                    have : c.toNat ≠ 32 := fun h => c32 (by rw [← UInt8.toNat_inj]; exact h)
                    simp
                    omega
                  have HC32 := Lib.hid c32
                  clear hz c32
                  go_wp2
                  go_roundw
                  case rel => exact ⟨i + 1, by omega, by go_num, Lib.hid (by rw [HMM.out HC32.out]; exact HR.out), HO⟩
                  case measure => simp [RowKit.intOf]; omega
              · obtain rfl : m = i := by omega
                have hcvt : (convert 26 9 (.slice (some ⟨G, 0, none⟩) m 64)).run Tryz.prog wr = .ok (.string ⟨(s.data.toList.flatMap Uri.qF).toArray⟩) wr := by
                  obtain ⟨cur, h1, h2, h3⟩ := HR.out
                  have hml : (Uri.mix l m).length = m := by rw [Uri.mix_len, HL.out]
                  have h0 := run_convert_bytes_back (P := Tryz.prog) wr 26 9 5 ⟨G, 0, none⟩ 64 (Uri.mix l m) (by kernel_rfl) (by kernel_rfl) (by kernel_rfl) fun j hj => by
                    rw [Lib.add_plain, Nat.zero_add, Lib.cell_of_heap h1]
                    exact h3 j _ (List.getElem?_eq_getElem hj)
                  rw [hml] at h0
                  rw [h0, HLL.out, HM.out, show Uri.mix l m = l.map Uri.pF by rw [← HL.out]; exact Uri.mix_end l]
                go_wp2
                go_ret
                exact ⟨rfl, HB2.out.trans (((Only.trans HO3.out HO.out).below (B := W.heap.size) (by omega) HB2.out.size))⟩
          · have h64i : ¬ (m : Int) ≤ 64 := by omega
            go_wp2_with fail
            obtain ⟨w1b, hw1b⟩ : ∃ w, wr.alloc (Obj.cells (List.toArray (Value.int .u8 0 :: Value.int .u8 0 :: Value.int .u8 0 :: Value.int .u8 0 :: Value.int .u8 0 :: Value.int .u8 0 :: Value.int .u8 0 :: Value.int .u8 0 :: Value.int .u8 0 :: Value.int .u8 0 :: Value.int .u8 0 :: Value.int .u8 0 :: Value.int .u8 0 :: Value.int .u8 0 :: Value.int .u8 0 :: Value.int .u8 0 :: Value.int .u8 0 :: Value.int .u8 0 :: Value.int .u8 0 :: Value.int .u8 0 :: Value.int .u8 0 :: Value.int .u8 0 :: Value.int .u8 0 :: Value.int .u8 0 :: Value.int .u8 0 :: Value.int .u8 0 :: Value.int .u8 0 :: Value.int .u8 0 :: Value.int .u8 0 :: Value.int .u8 0 :: Value.int .u8 0 :: Value.int .u8 0 :: Value.int .u8 0 :: Value.int .u8 0 :: Value.int .u8 0 :: Value.int .u8 0 :: Value.int .u8 0 :: Value.int .u8 0 :: Value.int .u8 0 :: Value.int .u8 0 :: Value.int .u8 0 :: Value.int .u8 0 :: Value.int .u8 0 :: Value.int .u8 0 :: Value.int .u8 0 :: Value.int .u8 0 :: Value.int .u8 0 :: Value.int .u8 0 :: Value.int .u8 0 :: Value.int .u8 0 :: Value.int .u8 0 :: Value.int .u8 0 :: Value.int .u8 0 :: Value.int .u8 0 :: Value.int .u8 0 :: Value.int .u8 0 :: Value.int .u8 0 :: Value.int .u8 0 :: Value.int .u8 0 :: Value.int .u8 0 :: Value.int .u8 0 :: Value.int .u8 0 :: Value.int .u8 0 :: Value.int .u8 0 :: [])) 61) = w := ⟨_, rfl⟩
            rw [hw1b]
            have hmk := run_make_row' (P := Tryz.prog) 26 5 (.int .u8 0) 1 Tryz.underlying26 info_u8q rfl .i64 .i64 m (by omega) (by omega) w1b
            obtain ⟨w2, hw2⟩ : ∃ w2, w1b.alloc (.cells (madeCells #[Value.int .u8 0] m) 5) = w2 := ⟨_, rfl⟩
            rw [hw2] at hmk
            have hb1b : Below W.heap.size W w1b := by rw [← hw1b]; exact HB1.out.alloc HB1.out.size _
            have hms : (madeCells #[Value.int .u8 0] m).size = m := by rw [size_madeCells]
            have hrow : RowB 5 w1b.heap.size m w2 [] := ⟨_, by rw [← hw2]; exact heap_alloc_new _ _, hms, fun j b hj => by simp at hj⟩
            have hb2 : Below W.heap.size W w2 := by rw [← hw2]; exact hb1b.alloc hb1b.size _
            have hGs : w1b.heap.size < w2.heap.size := by rw [← hw2, nblk_alloc]; omega
            have hGW := hb1b.size
            have hfit : m ≤ m := Nat.le_refl _
            obtain ⟨G, hG⟩ : ∃ G, w1b.heap.size = G := ⟨_, rfl⟩
            rw [hG] at hmk hrow hGs hGW
            clear hw2 hG hw1b hb1b hms
            have hcp : ∃ w3, (∀ ty, (Builtin.copy_ #[26, 9] ty #[.slice (some ⟨G, 0, none⟩) m m, .string s]).run Tryz.prog w2 = .ok (goInt m) w3) ∧ RowB 5 G m w3 l ∧ Only G w2 w3 := by
              obtain ⟨cur, h1, h2, h3⟩ := hrow
              refine ⟨_, fun ty => ?_, ⟨_, setRow_heap w2 G cur (cur.toList.take 0 ++ Lib.byteCells l ++ cur.toList.drop (0 + l.length)).toArray 5 (0, 0) h1, ?_, fun j b hj => ?_⟩, Only.of_setRow _⟩
              · rw [run_copy_str (P := Tryz.prog) w2 26 9 ty 5 G 0 m m s l cur 5 Tryz.underlying26 info_u8z h1 (by rw [HLL.out, List.take_of_length_le (by rw [HL.out]; exact Nat.le_refl _)]) (by rw [HL.out, h2]; omega), HL.out]
              · simp [Own.byteCells_len, HL.out, h2]
                try omega
              · obtain ⟨hjl, rfl⟩ := List.getElem?_eq_some_iff.1 hj
                simp [Lib.byteCells, List.getElem?_append_left, hjl]
            obtain ⟨w3, hcp, hrow3, honly3⟩ := hcp
            have HR3 := Lib.hid hrow3
            have HO3 := Lib.hid honly3
            have HB2 := Lib.hid hb2
            clear hrow hrow3 honly3 hb2
            rw [hmk]
            go_simp
            go_wp2
            go_loopw [12] (fun iv wr => ∃ i : Nat, i ≤ m ∧ iv = .int .i64 i ∧ Hid (RowB 5 G m wr (Uri.mix l i)) ∧ Hid (Only G w3 wr)) (fun iv _ => m - (RowKit.intOf iv).toNat)
            case atStart => exact ⟨0, Nat.zero_le _, rfl, HR3, Lib.hid (Only.refl _ _)⟩
            case round =>
              obtain ⟨i, hi, rfl, HR, HO⟩ := hrel
              by_cases hlt : i < m
              · have hi0 := fun w => Str.idx_str (P := Tryz.prog) 9 Tryz.underlying9 s .i64 (i : Int) i rfl (by omega) w
                rw [HLL.out] at hi0
                have hms := Uri.mix_step l i (by rw [HL.out]; exact hlt)
                have hmsame := Uri.mix_same l i (by rw [HL.out]; exact hlt)
                obtain ⟨c, hc⟩ : ∃ c, l.getD i 0 = c := ⟨_, rfl⟩
                rw [hc] at hi0 hms hmsame
                obtain ⟨v, hv⟩ := HR.out.cell i (by omega)
                have hfz := HR.out.frozen i
                have HMS := Lib.hid hms
                have HMM := Lib.hid hmsame
                clear hc hms hmsame
                by_cases c32 : c = 32
                · subst c32
                  have hi1 : ∀ w, (Instr.index 9 (.string s) (.int .i64 (i : Int))).run Tryz.prog w = .ok (.int .u8 32) w := hi0
                  clear hi0
                  go_wp2
                  go_roundw
                  case rel => exact ⟨i + 1, by omega, by go_num, Lib.hid (by rw [HMS.out]; exact HR.out.put i (by rw [Uri.mix_len, HL.out]; exact hlt) (by omega) 43 43 rfl), Lib.hid (HO.out.setCell i _)⟩
                  case measure => simp [RowKit.intOf]; omega
                · obtain ⟨z, hz⟩ : ∃ z : Int, (c.toNat : Int) = z := ⟨_, rfl⟩
                  rw [hz] at hi0
                  have z32 : (z == 32) = false := by
                    rw [← hz]
                    have : c.toNat ≠ 32 := fun h => c32 (by rw [← UInt8.toNat_inj]; exact h)
                    simp
                    omega
                  have HC32 := Lib.hid c32
                  clear hz c32
                  go_wp2
                  go_roundw
                  case rel => exact ⟨i + 1, by omega, by go_num, Lib.hid (by rw [HMM.out HC32.out]; exact HR.out), HO⟩
                  case measure => simp [RowKit.intOf]; omega
              · obtain rfl : m = i := by omega
                have hcvt : (convert 26 9 (.slice (some ⟨G, 0, none⟩) m m)).run Tryz.prog wr = .ok (.string ⟨(s.data.toList.flatMap Uri.qF).toArray⟩) wr := by
                  obtain ⟨cur, h1, h2, h3⟩ := HR.out
                  have hml : (Uri.mix l m).length = m := by rw [Uri.mix_len, HL.out]
                  have h0 := run_convert_bytes_back (P := Tryz.prog) wr 26 9 5 ⟨G, 0, none⟩ m (Uri.mix l m) (by kernel_rfl) (by kernel_rfl) (by kernel_rfl) fun j hj => by
                    rw [Lib.add_plain, Nat.zero_add, Lib.cell_of_heap h1]
                    exact h3 j _ (List.getElem?_eq_getElem hj)
                  rw [hml] at h0
                  rw [h0, HLL.out, HM.out, show Uri.mix l m = l.map Uri.pF by rw [← HL.out]; exact Uri.mix_end l]
                go_wp2
                go_ret
                exact ⟨rfl, HB2.out.trans (((Only.trans HO3.out HO.out).below (B := W.heap.size) (by omega) HB2.out.size))⟩
        · have hq1 : ((q : Int) == 0) = false := by simp; omega
          rcases Bool.eq_false_or_eq_true ((p : Int) == 0) with hp1 | hp1
          all_goals
            by_cases h64 : m ≤ 64
            · have h64i : (m : Int) ≤ 64 := by omega
              go_wp2_with fail
              obtain ⟨w2, hw2⟩ : ∃ w2, wr.alloc (Obj.cells (List.toArray (Value.int .u8 0 :: Value.int .u8 0 :: Value.int .u8 0 :: Value.int .u8 0 :: Value.int .u8 0 :: Value.int .u8 0 :: Value.int .u8 0 :: Value.int .u8 0 :: Value.int .u8 0 :: Value.int .u8 0 :: Value.int .u8 0 :: Value.int .u8 0 :: Value.int .u8 0 :: Value.int .u8 0 :: Value.int .u8 0 :: Value.int .u8 0 :: Value.int .u8 0 :: Value.int .u8 0 :: Value.int .u8 0 :: Value.int .u8 0 :: Value.int .u8 0 :: Value.int .u8 0 :: Value.int .u8 0 :: Value.int .u8 0 :: Value.int .u8 0 :: Value.int .u8 0 :: Value.int .u8 0 :: Value.int .u8 0 :: Value.int .u8 0 :: Value.int .u8 0 :: Value.int .u8 0 :: Value.int .u8 0 :: Value.int .u8 0 :: Value.int .u8 0 :: Value.int .u8 0 :: Value.int .u8 0 :: Value.int .u8 0 :: Value.int .u8 0 :: Value.int .u8 0 :: Value.int .u8 0 :: Value.int .u8 0 :: Value.int .u8 0 :: Value.int .u8 0 :: Value.int .u8 0 :: Value.int .u8 0 :: Value.int .u8 0 :: Value.int .u8 0 :: Value.int .u8 0 :: Value.int .u8 0 :: Value.int .u8 0 :: Value.int .u8 0 :: Value.int .u8 0 :: Value.int .u8 0 :: Value.int .u8 0 :: Value.int .u8 0 :: Value.int .u8 0 :: Value.int .u8 0 :: Value.int .u8 0 :: Value.int .u8 0 :: Value.int .u8 0 :: Value.int .u8 0 :: Value.int .u8 0 :: Value.int .u8 0 :: Value.int .u8 0 :: [])) 61) = w2 := ⟨_, rfl⟩
              rw [hw2]
              have hrow : RowB 61 wr.heap.size 64 w2 [] := ⟨_, by rw [← hw2]; exact heap_alloc_new _ _, rfl, fun j b hj => by simp at hj⟩
              have hb2 : Below W.heap.size W w2 := by rw [← hw2]; exact HB1.out.alloc HB1.out.size _
              have hGs : wr.heap.size < w2.heap.size := by rw [← hw2, nblk_alloc]; omega
              have hGW := HB1.out.size
              have hfit : m ≤ 64 := h64
              obtain ⟨G, hG⟩ : ∃ G, wr.heap.size = G := ⟨_, rfl⟩
              rw [hG] at hrow hGs hGW ⊢
              clear hw2 hG
              have hcv2 := HCV.out w2
              have hw3z := Lib.bytesWorld_size w2 5 s
              have hw3o := Lib.bytesWorld_at_old w2 5 s
              have hw3c := Lib.bytesWorld_cell w2 5 s
              have hb23 : Below w2.heap.size w2 (Lib.bytesWorld w2 5 s) := ⟨rfl, rfl, rfl, by rw [hw3z]; omega, fun k hk => hw3o k hk⟩
              obtain ⟨w3, hw3⟩ : ∃ w3, Lib.bytesWorld w2 5 s = w3 := ⟨_, rfl⟩
              rw [hw3] at hcv2 hw3z hw3c hb23
              have hrow3 := hrow.kept (hb23.block G hGs)
              have hb3 := hb2.trans (hb23.mono hb2.size)
              rw [HLL.out] at hw3c
              obtain ⟨Bk, hBk⟩ : ∃ b, w2.heap.size = b := ⟨_, rfl⟩
              rw [hBk] at hcv2 hw3c hw3z hGs
              have HC3 := Lib.hid hw3c
              have HR3 := Lib.hid hrow3
              have HB3 := Lib.hid hb3
              have HZ3 := Lib.hid hw3z
              clear hrow hrow3 hb2 hb3 hw3c hw3o hw3 hb23 hBk hw3z
              rw [hcv2]
              go_simp
              go_wp2
              go_loopw [13, 78] (fun jv iv wr => ∃ i : Nat, i ≤ k ∧ jv = .int .i64 (((l.take i).flatMap Uri.qF).length) ∧ iv = .int .i64 i ∧ Hid (RowB 61 G 64 wr ((l.take i).flatMap Uri.qF)) ∧ Hid (Only G w3 wr)) (fun _ iv _ => k - (RowKit.intOf iv).toNat)
              case atStart => exact ⟨0, Nat.zero_le _, rfl, rfl, HR3, Lib.hid (Only.refl _ _)⟩
              case round =>
                obtain ⟨i, hi, rfl, rfl, HR, HO⟩ := hrel
                by_cases hlt : i < k
                · have hci : wr.cell? ⟨Bk, i, none⟩ = some (.int .u8 ((l.getD i 0).toNat : Int)) := (HO.out.cell (p := ⟨Bk, i, none⟩) (by rw [HZ3.out]; show Bk < Bk + 1; omega) (by show Bk ≠ G; omega)).trans (HC3.out i (by omega))
                  have hnext := Own.flat_take Uri.qF l i (by rw [HL.out]; exact hlt)
                  have hle := Uri.take_flat_le Uri.qF l (i + 1)
                  rw [HQL.out] at hle
                  obtain ⟨c, hc⟩ : ∃ c, l.getD i 0 = c := ⟨_, rfl⟩
                  rw [hc] at hci hnext
                  obtain ⟨x, hx⟩ : ∃ x, (l.take i).flatMap Uri.qF = x := ⟨_, rfl⟩
                  rw [hx] at hnext HR ⊢
                  rw [hnext, List.length_append] at hle
                  obtain ⟨j, hj⟩ : ∃ j, x.length = j := ⟨_, rfl⟩
                  rw [hj] at hle ⊢
                  have HN := Lib.hid hnext
                  have HX := Lib.hid hj
                  have HS := HSE.out c
                  have hut : UTab wr := HTAB.out _ (HB3.out.trans (HO.out.below (by omega) HB3.out.size))
                  have HUT := Lib.hid hut
                  obtain ⟨z, hz⟩ : ∃ z : Int, (c.toNat : Int) = z := ⟨_, rfl⟩
                  rw [hz] at hci HS
                  have HSz := Lib.hid HS
                  clear HS hut hnext hj hc hx
                  by_cases c32 : c = 32
                  · subst c32
                    obtain rfl : z = 32 := hz.symm
                    have hq32 : Uri.qF 32 = [43] := rfl
                    rw [hq32] at HN hle
                    simp only [List.length_cons, List.length_nil] at hle
                    obtain ⟨v, hv⟩ := HR.out.cell j (by omega)
                    have hfz := HR.out.frozen j
                    clear hz hq32
                    go_wp2
                    go_roundw
                    case rel => exact ⟨i + 1, by omega, by rw [HN.out, List.length_append, HX.out]; rfl, by go_num, Lib.hid (by rw [HN.out]; exact HR.out.push j HX.out (by omega) 43 43 rfl), Lib.hid (HO.out.setCell j _)⟩
                    case measure => simp [RowKit.intOf]; omega
                  · have z32 : (z == 32) = false := by
                      rw [← hz]
                      have : c.toNat ≠ 32 := fun h => c32 (by rw [← UInt8.toNat_inj]; exact h)
                      simp
                      omega
                    have hz255 : 0 ≤ z ∧ z < 256 := by have := c.toNat_lt; omega
                    cases hu : Uri.unr c.toNat with
                    | true =>
                      rw [hu] at HSz
                      have hqc : Uri.qF c = [c] := by unfold Uri.qF; rw [if_neg c32, if_pos hu]
                      rw [hqc] at HN hle
                      simp only [List.length_cons, List.length_nil] at hle
                      obtain ⟨v, hv⟩ := HR.out.cell j (by omega)
                      have hfz := HR.out.frozen j
                      have HZ := Lib.hid hz
                      clear hz hqc c32 hu
                      go_wp2_with (go_at_call 40; refine (HSz.out _ HUT.out).mono ?_; rintro e w2 ⟨rfl, rfl⟩)
                      go_roundw
                      case rel => exact ⟨i + 1, by omega, by rw [HN.out, List.length_append, HX.out]; rfl, by go_num, Lib.hid (by rw [HN.out]; exact HR.out.push j HX.out (by omega) c z HZ.out), Lib.hid (HO.out.setCell j _)⟩
                      case measure => simp [RowKit.intOf]; omega
                    | false =>
                      rw [hu] at HSz
                      have hqc : Uri.qF c = [37, Uri.hx (c.toNat / 16), Uri.hx (c.toNat % 16)] := by unfold Uri.qF; rw [if_neg c32, if_neg (by simp [hu])]
                      rw [hqc] at HN hle
                      simp only [List.length_cons, List.length_nil] at hle
                      obtain ⟨v, hv⟩ := HR.out.cell j (by omega)
                      have hfz := HR.out.frozen j
                      have HZ := Lib.hid hz
                      clear hz hqc c32 hu
                      obtain ⟨a, ha⟩ : ∃ a : Int, ((Uri.hx (c.toNat / 16)).toNat : Int) = a := ⟨_, rfl⟩
                      obtain ⟨b, hb⟩ : ∃ b : Int, ((Uri.hx (c.toNat % 16)).toNat : Int) = b := ⟨_, rfl⟩
                      have hia : ∀ w, (Instr.index 9 (.string ⟨#[48, 49, 50, 51, 52, 53, 54, 55, 56, 57, 65, 66, 67, 68, 69, 70]⟩) (.int .u8 (z / 16))).run Tryz.prog w = .ok (.int .u8 a) w := fun w => by
                        rw [Str.idx_str (P := Tryz.prog) 9 Tryz.underlying9 ⟨#[48, 49, 50, 51, 52, 53, 54, 55, 56, 57, 65, 66, 67, 68, 69, 70]⟩ .u8 (z / 16) (c.toNat / 16) (by have := HZ.out; omega) (by show c.toNat / 16 < 16; have := c.toNat_lt; omega), ← ha]
                        rfl
                      have hib : ∀ w, (Instr.index 9 (.string ⟨#[48, 49, 50, 51, 52, 53, 54, 55, 56, 57, 65, 66, 67, 68, 69, 70]⟩) (.int .u8 (z % 16))).run Tryz.prog w = .ok (.int .u8 b) w := fun w => by
                        rw [Str.idx_str (P := Tryz.prog) 9 Tryz.underlying9 ⟨#[48, 49, 50, 51, 52, 53, 54, 55, 56, 57, 65, 66, 67, 68, 69, 70]⟩ .u8 (z % 16) (c.toNat % 16) (by have := HZ.out; omega) (by show c.toNat % 16 < 16; omega), ← hb]
                        rfl
                      have r1 := HR.out.push j HX.out (by omega) 37 37 rfl
                      have r2 := r1.push (j + 1) (by rw [List.length_append, HX.out]; rfl) (by omega) (Uri.hx (c.toNat / 16)) a ha
                      have r3 := r2.push (j + 2) (by rw [List.length_append, List.length_append, HX.out]; rfl) (by omega) (Uri.hx (c.toNat % 16)) b hb
                      obtain ⟨v1, hv1⟩ := r1.cell (j + 1) (by omega)
                      obtain ⟨v2, hv2⟩ := r2.cell (j + 2) (by omega)
                      have hfz1 := r1.frozen (j + 1)
                      have hfz2 := r2.frozen (j + 2)
                      have HR3' := Lib.hid r3
                      clear ha hb r1 r2 r3
                      go_wp2_with (go_at_call 40; refine (HSz.out _ HUT.out).mono ?_; rintro e w2 ⟨rfl, rfl⟩)
                      go_roundw
                      case rel => exact ⟨i + 1, by omega, by rw [HN.out, List.length_append, HX.out]; rfl, by go_num, Lib.hid (by rw [HN.out]; simpa using HR3'.out), Lib.hid (((HO.out.setCell j _).setCell (j + 1) _).setCell (j + 2) _)⟩
                      case measure => simp [RowKit.intOf]; omega
                · obtain rfl : i = k := by omega
                  have hcvt : (convert 26 9 (.slice (some ⟨G, 0, none⟩) m 64)).run Tryz.prog wr = .ok (.string ⟨(s.data.toList.flatMap Uri.qF).toArray⟩) wr := by
                    have hR := HR.out
                    rw [List.take_of_length_le (by rw [HL.out]; exact Nat.le_refl _)] at hR
                    obtain ⟨cur, h1, h2, h3⟩ := hR
                    have h0 := run_convert_bytes_back (P := Tryz.prog) wr 26 9 5 ⟨G, 0, none⟩ 64 (l.flatMap Uri.qF) (by kernel_rfl) (by kernel_rfl) (by kernel_rfl) fun j hj => by
                      rw [Lib.add_plain, Nat.zero_add, Lib.cell_of_heap h1]
                      exact h3 j _ (List.getElem?_eq_getElem hj)
                    rw [HQL.out] at h0
                    rw [h0, HLL.out]
                  go_wp2
                  go_ret
                  exact ⟨rfl, HB3.out.trans (HO.out.below (B := W.heap.size) (by omega) HB3.out.size)⟩
            · have h64i : ¬ (m : Int) ≤ 64 := by omega
              go_wp2_with fail
              obtain ⟨w1b, hw1b⟩ : ∃ w, wr.alloc (Obj.cells (List.toArray (Value.int .u8 0 :: Value.int .u8 0 :: Value.int .u8 0 :: Value.int .u8 0 :: Value.int .u8 0 :: Value.int .u8 0 :: Value.int .u8 0 :: Value.int .u8 0 :: Value.int .u8 0 :: Value.int .u8 0 :: Value.int .u8 0 :: Value.int .u8 0 :: Value.int .u8 0 :: Value.int .u8 0 :: Value.int .u8 0 :: Value.int .u8 0 :: Value.int .u8 0 :: Value.int .u8 0 :: Value.int .u8 0 :: Value.int .u8 0 :: Value.int .u8 0 :: Value.int .u8 0 :: Value.int .u8 0 :: Value.int .u8 0 :: Value.int .u8 0 :: Value.int .u8 0 :: Value.int .u8 0 :: Value.int .u8 0 :: Value.int .u8 0 :: Value.int .u8 0 :: Value.int .u8 0 :: Value.int .u8 0 :: Value.int .u8 0 :: Value.int .u8 0 :: Value.int .u8 0 :: Value.int .u8 0 :: Value.int .u8 0 :: Value.int .u8 0 :: Value.int .u8 0 :: Value.int .u8 0 :: Value.int .u8 0 :: Value.int .u8 0 :: Value.int .u8 0 :: Value.int .u8 0 :: Value.int .u8 0 :: Value.int .u8 0 :: Value.int .u8 0 :: Value.int .u8 0 :: Value.int .u8 0 :: Value.int .u8 0 :: Value.int .u8 0 :: Value.int .u8 0 :: Value.int .u8 0 :: Value.int .u8 0 :: Value.int .u8 0 :: Value.int .u8 0 :: Value.int .u8 0 :: Value.int .u8 0 :: Value.int .u8 0 :: Value.int .u8 0 :: Value.int .u8 0 :: Value.int .u8 0 :: Value.int .u8 0 :: Value.int .u8 0 :: [])) 61) = w := ⟨_, rfl⟩
              rw [hw1b]
              have hmk := run_make_row' (P := Tryz.prog) 26 5 (.int .u8 0) 1 Tryz.underlying26 info_u8q rfl .i64 .i64 m (by omega) (by omega) w1b
              obtain ⟨w2, hw2⟩ : ∃ w2, w1b.alloc (.cells (madeCells #[Value.int .u8 0] m) 5) = w2 := ⟨_, rfl⟩
              rw [hw2] at hmk
              have hb1b : Below W.heap.size W w1b := by rw [← hw1b]; exact HB1.out.alloc HB1.out.size _
              have hms : (madeCells #[Value.int .u8 0] m).size = m := by rw [size_madeCells]
              have hrow : RowB 5 w1b.heap.size m w2 [] := ⟨_, by rw [← hw2]; exact heap_alloc_new _ _, hms, fun j b hj => by simp at hj⟩
              have hb2 : Below W.heap.size W w2 := by rw [← hw2]; exact hb1b.alloc hb1b.size _
              have hGs : w1b.heap.size < w2.heap.size := by rw [← hw2, nblk_alloc]; omega
              have hGW := hb1b.size
              have hfit : m ≤ m := Nat.le_refl _
              obtain ⟨G, hG⟩ : ∃ G, w1b.heap.size = G := ⟨_, rfl⟩
              rw [hG] at hmk hrow hGs hGW
              clear hw2 hG hw1b hb1b hms
              have hcv2 := HCV.out w2
              have hw3z := Lib.bytesWorld_size w2 5 s
              have hw3o := Lib.bytesWorld_at_old w2 5 s
              have hw3c := Lib.bytesWorld_cell w2 5 s
              have hb23 : Below w2.heap.size w2 (Lib.bytesWorld w2 5 s) := ⟨rfl, rfl, rfl, by rw [hw3z]; omega, fun k hk => hw3o k hk⟩
              obtain ⟨w3, hw3⟩ : ∃ w3, Lib.bytesWorld w2 5 s = w3 := ⟨_, rfl⟩
              rw [hw3] at hcv2 hw3z hw3c hb23
              have hrow3 := hrow.kept (hb23.block G hGs)
              have hb3 := hb2.trans (hb23.mono hb2.size)
              rw [HLL.out] at hw3c
              obtain ⟨Bk, hBk⟩ : ∃ b, w2.heap.size = b := ⟨_, rfl⟩
              rw [hBk] at hcv2 hw3c hw3z hGs
              have HC3 := Lib.hid hw3c
              have HR3 := Lib.hid hrow3
              have HB3 := Lib.hid hb3
              have HZ3 := Lib.hid hw3z
              clear hrow hrow3 hb2 hb3 hw3c hw3o hw3 hb23 hBk hw3z
              rw [hmk]
              go_simp
              go_wp2
              go_loopw [13, 78] (fun jv iv wr => ∃ i : Nat, i ≤ k ∧ jv = .int .i64 (((l.take i).flatMap Uri.qF).length) ∧ iv = .int .i64 i ∧ Hid (RowB 5 G m wr ((l.take i).flatMap Uri.qF)) ∧ Hid (Only G w3 wr)) (fun _ iv _ => k - (RowKit.intOf iv).toNat)
              case atStart => exact ⟨0, Nat.zero_le _, rfl, rfl, HR3, Lib.hid (Only.refl _ _)⟩
              case round =>
                obtain ⟨i, hi, rfl, rfl, HR, HO⟩ := hrel
                by_cases hlt : i < k
                · have hci : wr.cell? ⟨Bk, i, none⟩ = some (.int .u8 ((l.getD i 0).toNat : Int)) := (HO.out.cell (p := ⟨Bk, i, none⟩) (by rw [HZ3.out]; show Bk < Bk + 1; omega) (by show Bk ≠ G; omega)).trans (HC3.out i (by omega))
                  have hnext := Own.flat_take Uri.qF l i (by rw [HL.out]; exact hlt)
                  have hle := Uri.take_flat_le Uri.qF l (i + 1)
                  rw [HQL.out] at hle
                  obtain ⟨c, hc⟩ : ∃ c, l.getD i 0 = c := ⟨_, rfl⟩
                  rw [hc] at hci hnext
                  obtain ⟨x, hx⟩ : ∃ x, (l.take i).flatMap Uri.qF = x := ⟨_, rfl⟩
                  rw [hx] at hnext HR ⊢
                  rw [hnext, List.length_append] at hle
                  obtain ⟨j, hj⟩ : ∃ j, x.length = j := ⟨_, rfl⟩
                  rw [hj] at hle ⊢
                  have HN := Lib.hid hnext
                  have HX := Lib.hid hj
                  have HS := HSE.out c
                  have hut : UTab wr := HTAB.out _ (HB3.out.trans (HO.out.below (by omega) HB3.out.size))
                  have HUT := Lib.hid hut
                  obtain ⟨z, hz⟩ : ∃ z : Int, (c.toNat : Int) = z := ⟨_, rfl⟩
                  rw [hz] at hci HS
                  have HSz := Lib.hid HS
                  clear HS hut hnext hj hc hx
                  by_cases c32 : c = 32
                  · subst c32
                    obtain rfl : z = 32 := hz.symm
                    have hq32 : Uri.qF 32 = [43] := rfl
                    rw [hq32] at HN hle
                    simp only [List.length_cons, List.length_nil] at hle
                    obtain ⟨v, hv⟩ := HR.out.cell j (by omega)
                    have hfz := HR.out.frozen j
                    clear hz hq32
                    go_wp2
                    go_roundw
                    case rel => exact ⟨i + 1, by omega, by rw [HN.out, List.length_append, HX.out]; rfl, by go_num, Lib.hid (by rw [HN.out]; exact HR.out.push j HX.out (by omega) 43 43 rfl), Lib.hid (HO.out.setCell j _)⟩
                    case measure => simp [RowKit.intOf]; omega
                  · have z32 : (z == 32) = false := by
                      rw [← hz]
                      have : c.toNat ≠ 32 := fun h => c32 (by rw [← UInt8.toNat_inj]; exact h)
                      simp
                      omega
                    have hz255 : 0 ≤ z ∧ z < 256 := by have := c.toNat_lt; omega
                    cases hu : Uri.unr c.toNat with
                    | true =>
                      rw [hu] at HSz
                      have hqc : Uri.qF c = [c] := by unfold Uri.qF; rw [if_neg c32, if_pos hu]
                      rw [hqc] at HN hle
                      simp only [List.length_cons, List.length_nil] at hle
                      obtain ⟨v, hv⟩ := HR.out.cell j (by omega)
                      have hfz := HR.out.frozen j
                      have HZ := Lib.hid hz
                      clear hz hqc c32 hu
                      go_wp2_with (go_at_call 40; refine (HSz.out _ HUT.out).mono ?_; rintro e w2 ⟨rfl, rfl⟩)
                      go_roundw
                      case rel => exact ⟨i + 1, by omega, by rw [HN.out, List.length_append, HX.out]; rfl, by go_num, Lib.hid (by rw [HN.out]; exact HR.out.push j HX.out (by omega) c z HZ.out), Lib.hid (HO.out.setCell j _)⟩
                      case measure => simp [RowKit.intOf]; omega
                    | false =>
                      rw [hu] at HSz
                      have hqc : Uri.qF c = [37, Uri.hx (c.toNat / 16), Uri.hx (c.toNat % 16)] := by unfold Uri.qF; rw [if_neg c32, if_neg (by simp [hu])]
                      rw [hqc] at HN hle
                      simp only [List.length_cons, List.length_nil] at hle
                      obtain ⟨v, hv⟩ := HR.out.cell j (by omega)
                      have hfz := HR.out.frozen j
                      have HZ := Lib.hid hz
                      clear hz hqc c32 hu
                      obtain ⟨a, ha⟩ : ∃ a : Int, ((Uri.hx (c.toNat / 16)).toNat : Int) = a := ⟨_, rfl⟩
                      obtain ⟨b, hb⟩ : ∃ b : Int, ((Uri.hx (c.toNat % 16)).toNat : Int) = b := ⟨_, rfl⟩
                      have hia : ∀ w, (Instr.index 9 (.string ⟨#[48, 49, 50, 51, 52, 53, 54, 55, 56, 57, 65, 66, 67, 68, 69, 70]⟩) (.int .u8 (z / 16))).run Tryz.prog w = .ok (.int .u8 a) w := fun w => by
                        rw [Str.idx_str (P := Tryz.prog) 9 Tryz.underlying9 ⟨#[48, 49, 50, 51, 52, 53, 54, 55, 56, 57, 65, 66, 67, 68, 69, 70]⟩ .u8 (z / 16) (c.toNat / 16) (by have := HZ.out; omega) (by show c.toNat / 16 < 16; have := c.toNat_lt; omega), ← ha]
                        rfl
                      have hib : ∀ w, (Instr.index 9 (.string ⟨#[48, 49, 50, 51, 52, 53, 54, 55, 56, 57, 65, 66, 67, 68, 69, 70]⟩) (.int .u8 (z % 16))).run Tryz.prog w = .ok (.int .u8 b) w := fun w => by
                        rw [Str.idx_str (P := Tryz.prog) 9 Tryz.underlying9 ⟨#[48, 49, 50, 51, 52, 53, 54, 55, 56, 57, 65, 66, 67, 68, 69, 70]⟩ .u8 (z % 16) (c.toNat % 16) (by have := HZ.out; omega) (by show c.toNat % 16 < 16; omega), ← hb]
                        rfl
                      have r1 := HR.out.push j HX.out (by omega) 37 37 rfl
                      have r2 := r1.push (j + 1) (by rw [List.length_append, HX.out]; rfl) (by omega) (Uri.hx (c.toNat / 16)) a ha
                      have r3 := r2.push (j + 2) (by rw [List.length_append, List.length_append, HX.out]; rfl) (by omega) (Uri.hx (c.toNat % 16)) b hb
                      obtain ⟨v1, hv1⟩ := r1.cell (j + 1) (by omega)
                      obtain ⟨v2, hv2⟩ := r2.cell (j + 2) (by omega)
                      have hfz1 := r1.frozen (j + 1)
                      have hfz2 := r2.frozen (j + 2)
                      have HR3' := Lib.hid r3
                      clear ha hb r1 r2 r3
                      go_wp2_with (go_at_call 40; refine (HSz.out _ HUT.out).mono ?_; rintro e w2 ⟨rfl, rfl⟩)
                      go_roundw
                      case rel => exact ⟨i + 1, by omega, by rw [HN.out, List.length_append, HX.out]; rfl, by go_num, Lib.hid (by rw [HN.out]; simpa using HR3'.out), Lib.hid (((HO.out.setCell j _).setCell (j + 1) _).setCell (j + 2) _)⟩
                      case measure => simp [RowKit.intOf]; omega
                · obtain rfl : i = k := by omega
                  have hcvt : (convert 26 9 (.slice (some ⟨G, 0, none⟩) m m)).run Tryz.prog wr = .ok (.string ⟨(s.data.toList.flatMap Uri.qF).toArray⟩) wr := by
                    have hR := HR.out
                    rw [List.take_of_length_le (by rw [HL.out]; exact Nat.le_refl _)] at hR
                    obtain ⟨cur, h1, h2, h3⟩ := hR
                    have h0 := run_convert_bytes_back (P := Tryz.prog) wr 26 9 5 ⟨G, 0, none⟩ m (l.flatMap Uri.qF) (by kernel_rfl) (by kernel_rfl) (by kernel_rfl) fun j hj => by
                      rw [Lib.add_plain, Nat.zero_add, Lib.cell_of_heap h1]
                      exact h3 j _ (List.getElem?_eq_getElem hj)
                    rw [HQL.out] at h0
                    rw [h0, HLL.out]
                  go_wp2
                  go_ret
                  exact ⟨rfl, HB3.out.trans (HO.out.below (B := W.heap.size) (by omega) HB3.out.size)⟩
end Go.Proofs.YtbmnbppljnddjaaGreatFmt
