/- Walks of encodeArray over ints: the wrapper, the copy, the model; the law. -/
import Derived.Test.YtcneanhebfdceaaGreatFmtFacts
import Derived.Test.YtcneanhebfdceaaGreatFmtOwn
import Derived.Test.YtcneanhebfdceaaGreatFmtEsc
import Derived.Test.YtcneanhebfdceaaGreatFmtStr
import Derived.Test.YtcneanhebfdceaaGreatFmtEncAS
import Derived.Test.YtcneanhebfdceaaGreatFmtModQ
import Derived.Test.YtcneanhebfdceaaGreatFmtStrC
import Derived.Handy
import Derived.WalkSpells
import Derived.WalkSmall
import Derived.Deep.LoopGhost
import Derived.Deep.QuietTactic
import Derived.BigQuiet
import Derived.Lib.Hide
namespace Go.Proofs.YtcneanhebfdceaaGreatFmt
open Go.RowKit Go.Deep


def encL (zs : List ByteArray) (n : Nat) : List UInt8 := 91 :: (Esc.glue (zs.map qt) [44] n ++ [93])
def encB (zs : List ByteArray) (n : Nat) : ByteArray := ⟨(encL zs n).toArray⟩
theorem enc_start (wr : World) (C : Array Value) (h1 : C.size = 65) (h2 : C[0]? = some (.iface 39 (.pointer (some ⟨wr.heap.size, 0, none⟩)))) :
    EncAt wr.heap.size wr.heap.size (wr.heap.size + 1) [] ((wr.alloc (.cells #[.pointer none, .slice none 0 0] 41)).alloc (.cells C 46)) ((wr.alloc (.cells #[.pointer none, .slice none 0 0] 41)).alloc (.cells C 46)) := by
  refine ⟨?_, ?_, Below.refl _ _⟩
  · exact Lib.IsBuilderF.alloc (show Lib.IsBuilderF 41 5 wr.heap.size wr.heap.size [] _ from (Lib.fresh_isBuilder 41 5 wr).imp Lib.BuilderAtF.of Lib.BuilderAtF.of) _
  · refine ⟨C, ?_, h1, h2, fun j b hj => by simp at hj⟩
    rw [← Go.Deep.nblk_alloc wr (.cells #[.pointer none, .slice none 0 0] 41)]
    exact heap_alloc_new _ _
theorem below_two (wr : World) (o1 o2 : Obj) : Below wr.heap.size wr ((wr.alloc o1).alloc o2) := ((Below.refl _ _).alloc (Nat.le_refl _) _).alloc (by rw [Go.Deep.nblk_alloc]; omega) _

set_option maxRecDepth 100000 in
set_option maxHeartbeats 4000000 in
theorem zzEnc_any (zs : List ByteArray) (n : Nat) (hn : zs.length = n) (hz : Sizes zs) (hnb : n ≤ 65536) (v : Value) (B : Nat) (W : World) (hB : B ≤ W.heap.size) (hdr : DrBelow B W) (hv : Cells.At W v (StrF zs) n) :
    Calls Tryz.prog 15 #[v] W fun e w' => e = .returned (.string (encB zs n)) ∧ Below W.heap.size W w' := by
  obtain ⟨a, cap, rfl, hcc⟩ := hv
  have HC := Lib.hid hcc
  have HZ := Lib.hid hz
  have HDR := Lib.hid hdr
  have hgl := glue_lenQ zs hz
  have HG := Lib.hid (fun k (hk : k ≤ n) => hgl k (by omega))
  have hencl : (encL zs n).length ≤ 140737488355328 := by
    have := hgl n (by omega)
    unfold encL
    simp only [List.length_cons, List.length_append, List.length_nil]
    omega
  have HEL := Lib.hid hencl
  clear hcc hz hdr hgl hencl
  have hnil := fun w a n c n' c' => run_neq_slice_nil_any (P := Tryz.prog) w 22 _ a n c n' c' Tryz.underlying22
  have hin := fun k => HZ.out k
  have HIN := Lib.hid hin
  clear hin
  -- what follows the array's making, at a world wr and a slice value xs
  have tail : ∀ (wr : World) (xs : Value) (C : Array Value), Below W.heap.size W wr → C.size = 65 → C[0]? = some (.iface 39 (.pointer (some ⟨wr.heap.size, 0, none⟩))) →
      (∃ a cap, xs = .slice a n cap ∧ (0 < n → ∃ vb off, a = some ⟨vb, off, none⟩ ∧ vb < wr.heap.size ∧ ∀ i, i < n → wr.cell? ⟨vb, off + i, none⟩ = some (.iface 9 (.string (zs.getD i ByteArray.empty))))) →
      Calls Tryz.prog 23 #[.pointer (some ⟨wr.heap.size + 1, 0, none⟩), xs] ((wr.alloc (.cells #[.pointer none, .slice none 0 0] 41)).alloc (.cells C 46))
        fun e w' => e = .returned (.tuple #[]) ∧ Lib.IsBuilderF 41 5 wr.heap.size wr.heap.size (Lib.byteCells (encL zs n)) w' ∧ Below wr.heap.size wr w' := by
    intro wr xs C hbw hC1 hC2 hxs
    have h2 := below_two wr (.cells #[.pointer none, .slice none 0 0] 41) (.cells C 46)
    refine (encodeArray_str zs n hn HIN.out hnb xs wr.heap.size wr.heap.size (wr.heap.size + 1) _ h2.size (Nat.le_succ _) (Nat.succ_ne_self _) ?_ (enc_start wr C hC1 hC2) ?_ HG.out).mono fun e w' ⟨he, h1⟩ => ⟨he, h1.1, h2.trans h1.2.2⟩
    · exact fun w' hb => (HDR.out.on ((hbw.mono hB).trans (h2.mono (Nat.le_trans hB hbw.size)))) w' (hb.mono (Nat.le_trans hB hbw.size))
    · obtain ⟨a, cap, rfl, hc⟩ := hxs
      refine ⟨a, cap, rfl, fun h0 => ?_⟩
      obtain ⟨vb, off, rfl, hvb, hcell⟩ := hc h0
      exact ⟨vb, off, rfl, hvb, fun i hi => (h2.cell (p := ⟨vb, off + i, none⟩) hvb).trans (hcell i hi)⟩
  have HTAIL := Lib.hid tail
  clear tail
  cases a with
  | none =>
    have h0 : n = 0 := by
      rcases Nat.eq_zero_or_pos n with h | h
      · exact h
      · obtain ⟨b, off, hx, _⟩ := HC.out h
        cases hx
    subst h0
    go_enter Tryz.func15, Tryz.ntmps15
    go_wp2_with fail
    refine (HTAIL.out W (.slice none 0 0) _ (Below.refl _ _) rfl rfl ⟨none, 0, rfl, fun h => absurd h (Nat.lt_irrefl _)⟩).mono ?_
    rintro e w1 ⟨rfl, hB1, hb1⟩
    have HS := Lib.hid (Tryz.Builder_String_any_k W.heap.size W.heap.size (encL zs 0) w1 hB1 hb1.size)
    have HB1 := Lib.hid hb1
    clear hB1 hb1
    go_wp2_with (go_at_call 20; refine HS.out.mono ?_; rintro e w2 ⟨rfl, _, hb3, _⟩)
    go_ret
    exact ⟨rfl, HB1.out.trans hb3⟩
  | some ad =>
    have hmk := fun w => run_make_row' (P := Tryz.prog) 50 20 .nilIface 16 Tryz.underlying50 info_anyI rfl .i64 .i64 n (by omega) (by omega) w
    have hS : Hid (Below W.heap.size W (W.alloc (.cells (madeCells #[.nilIface] n) 20)) ∧ (W.alloc (.cells (madeCells #[.nilIface] n) 20)).rowIs W.heap.size 20 n (Cells.fill (fun j => .iface 9 (StrF zs j)) .nilIface 0)) :=
      Lib.hid ⟨(Below.refl _ _).alloc (Nat.le_refl _) _, Cells.fill_start (World.rowIs_made W _ n _)⟩
    go_enter Tryz.func15, Tryz.ntmps15
    go_wp2
    go_loopw [4] (fun i wr => ∃ k : Nat, k ≤ n ∧ i = .int .i64 k ∧ Hid (Below W.heap.size W wr ∧ wr.rowIs W.heap.size 20 n (Cells.fill (fun j => .iface 9 (StrF zs j)) .nilIface k))) (fun i _ => n - (intOf i).toNat)
    case atStart => exact ⟨0, Nat.zero_le _, rfl, hS⟩
    case round =>
      obtain ⟨k, hk, rfl, HR⟩ := hrel
      by_cases hlt : k < n
      · obtain ⟨b, off, hx, hbl, hcell⟩ := HC.out (by omega)
        cases hx
        have hcx : wr.cell? ⟨b, off + k, none⟩ = some (.string (zs.getD k ByteArray.empty)) := (HR.out.1.cell (p := ⟨b, off + k, none⟩) hbl).trans (hcell k hlt)
        clear hcell
        obtain ⟨z, hz⟩ : ∃ z, zs.getD k ByteArray.empty = z := ⟨_, rfl⟩
        rw [hz] at hcx
        have HZ2 := Lib.hid hz
        clear hz
        have hco := Cells.fill_old HR.out.2 hlt (Nat.lt_irrefl _)
        have hfo := HR.out.2.frozen k
        go_wp2
        go_roundw
        case rel => exact ⟨k + 1, by omega, by go_num, Lib.hid ⟨HR.out.1.setCell (Nat.le_refl _) _, Cells.fill_set HR.out.2 _ (by unfold StrF; rw [HZ2.out])⟩⟩
        case measure => simp [intOf]; omega
      · obtain rfl : n = k := by omega
        go_wp2_with fail
        refine (HTAIL.out wr (.slice (some ⟨W.heap.size, 0, none⟩) n n) _ HR.out.1 rfl rfl ⟨_, n, rfl, fun h0 => ⟨W.heap.size, 0, rfl, HR.out.2.lt, fun i hi => by rw [Nat.zero_add]; exact Cells.fill_cell HR.out.2 hi hi⟩⟩).mono ?_
        rintro e w1 ⟨rfl, hB1, hb1⟩
        have HS := Lib.hid (Tryz.Builder_String_any_k wr.heap.size wr.heap.size (encL zs n) w1 hB1 hb1.size)
        have HB1 := Lib.hid (HR.out.1.trans (hb1.mono HR.out.1.size))
        have HB2 := Lib.hid (Nat.le_trans HR.out.1.size (Nat.le_refl _))
        clear hB1 hb1
        go_wp2_with (go_at_call 20; refine HS.out.mono ?_; rintro e w2 ⟨rfl, _, hb3, _⟩)
        go_ret
        exact ⟨rfl, HB1.out.trans (hb3.mono HB2.out)⟩

set_option maxRecDepth 100000 in
set_option maxHeartbeats 2000000 in
theorem cloneB2_any (zs : List ByteArray) (n : Nat) (v : Value) (hl : n ≤ 131072) (W : World) (hv : Cells.At W v (StrF zs) n) :
    Calls Tryz.prog 8 #[v] W fun e w' => (∃ v', e = .returned v' ∧ Cells.At w' v' (StrF zs) n) ∧ Below W.heap.size W w' := by
  obtain ⟨a, cap, rfl, hcc⟩ := hv
  have HC := Lib.hid hcc
  clear hcc
  have hnil := fun w a n c n' c' => Lib.run_eql_slice_nil (P := Tryz.prog) w 22 _ a n c n' c' Tryz.underlying22
  cases a with
  | none =>
    have h0 : n = 0 := by
      rcases Nat.eq_zero_or_pos n with h | h
      · exact h
      · obtain ⟨b, off, hx, _⟩ := HC.out h
        cases hx
    subst h0
    go_enter Tryz.func8, Tryz.ntmps8
    go_wp2
    go_ret
    exact ⟨⟨_, rfl, none, 0, rfl, fun h => absurd h (Nat.lt_irrefl _)⟩, Below.refl _ _⟩
  | some ad =>
    have hmk := fun w => run_make_row' (P := Tryz.prog) 22 9 (.string ByteArray.empty) 16 Tryz.underlying22 info_strI rfl .i64 .i64 n (by omega) (by omega) w
    have hS : Hid (Below W.heap.size W (W.alloc (.cells (madeCells #[.string ByteArray.empty] n) 9)) ∧ (W.alloc (.cells (madeCells #[.string ByteArray.empty] n) 9)).rowIs W.heap.size 9 n (Cells.fill (StrF zs) (.string ByteArray.empty) 0)) :=
      Lib.hid ⟨(Below.refl _ _).alloc (Nat.le_refl _) _, Cells.fill_start (World.rowIs_made W _ n _)⟩
    go_enter Tryz.func8, Tryz.ntmps8
    go_wp2
    go_loopw [4] (fun i wr => ∃ k : Nat, k ≤ n ∧ i = .int .i64 k ∧ Hid (Below W.heap.size W wr ∧ wr.rowIs W.heap.size 9 n (Cells.fill (StrF zs) (.string ByteArray.empty) k))) (fun i _ => n - (intOf i).toNat)
    case atStart => exact ⟨0, Nat.zero_le _, rfl, hS⟩
    case round =>
      obtain ⟨k, hk, rfl, HR⟩ := hrel
      by_cases hlt : k < n
      · obtain ⟨b, off, hx, hbl, hcell⟩ := HC.out (by omega)
        cases hx
        have hcx : wr.cell? ⟨b, off + k, none⟩ = some (.string (zs.getD k ByteArray.empty)) := (HR.out.1.cell (p := ⟨b, off + k, none⟩) hbl).trans (hcell k hlt)
        clear hcell
        obtain ⟨z, hz⟩ : ∃ z, zs.getD k ByteArray.empty = z := ⟨_, rfl⟩
        rw [hz] at hcx
        have HZ := Lib.hid hz
        clear hz
        have hco := Cells.fill_old HR.out.2 hlt (Nat.lt_irrefl _)
        have hfo := HR.out.2.frozen k
        go_wp2
        go_roundw
        case rel => exact ⟨k + 1, by omega, by go_num, Lib.hid ⟨HR.out.1.setCell (Nat.le_refl _) _, Cells.fill_set HR.out.2 _ (by unfold StrF; rw [HZ.out])⟩⟩
        case measure => simp [intOf]; omega
      · obtain rfl : k = n := by omega
        go_wp2
        go_ret
        exact ⟨⟨_, rfl, Cells.fill_at HR.out.2⟩, HR.out.1⟩

def BytesS (ss : List ByteArray) (n : Nat) (W : World) (e : Ending) (w' : World) : Prop :=
  ∃ b, e = .returned (.bool b) ∧ (b = true → n ≤ 1048576 ∧ ∀ j, j < n → szAt ss j ≤ 1048576) ∧ W = w'
set_option maxRecDepth 100000 in
set_option maxHeartbeats 2000000 in
theorem zzbS (ss : List ByteArray) (n : Nat) (a : Option Addr) (cap : Nat) (W : World) (hv : TextCells ss n a W) (hmx : ∀ j, j < n → szAt ss j ≤ maxLen) :
    Calls Tryz.prog 13 #[.slice a n cap] W (BytesS ss n W) := by
  have HC := Lib.hid hv
  have HMX := Lib.hid hmx
  clear hv hmx
  by_cases c : 1048576 < n
  · go_enter Tryz.func13, Tryz.ntmps13
    go_wp2
    go_ret
    exact ⟨false, rfl, (fun h => by cases h), rfl⟩
  · have hm : n ≤ 1048576 := by omega
    go_enter Tryz.func13, Tryz.ntmps13
    go_wp2
    go_loop [3, 4] (fun t i => ∃ k s : Nat, k ≤ n ∧ s ≤ 1048576 ∧ t = .int .i64 s ∧ i = .int .i64 k ∧ Hid (∀ j, j < k → szAt ss j ≤ 1048576)) (fun _ i => n - (intOf i).toNat)
    case atStart => exact ⟨0, n, Nat.zero_le _, hm, rfl, rfl, Lib.hid fun j hj => absurd hj (Nat.not_lt_zero _)⟩
    case round =>
      obtain ⟨k, s, hk, hs, rfl, rfl, HK⟩ := hrel
      by_cases hlt : k < n
      · obtain ⟨b, off, hx, hbl, hcell⟩ := HC.out (by omega)
        cases hx
        have hcx := hcell k hlt
        obtain ⟨x, hxx⟩ : ∃ x, ss.getD k ByteArray.empty = x := ⟨_, rfl⟩
        rw [hxx] at hcx
        have hml : x.size ≤ maxLen := by have := HMX.out k hlt; unfold szAt at this; rw [hxx] at this; exact this
        have HM : Hid (szAt ss k = x.size) := Lib.hid (by unfold szAt; rw [hxx])
        clear hcell hxx
        obtain ⟨m', hm2⟩ : ∃ m', x.size = m' := ⟨_, rfl⟩
        rw [hm2] at hml HM
        unfold maxLen at hml
        by_cases c1 : 1048576 < m'
        · go_wp2
          go_ret
          exact ⟨false, rfl, (fun h => by cases h), rfl⟩
        · by_cases c2 : 1048576 < s + m'
          · have i2 : (1048576 : Int) < (s : Int) + (m' : Int) := by omega
            go_wp2
            go_ret
            exact ⟨false, rfl, (fun h => by cases h), rfl⟩
          · have i2 : ¬ ((1048576 : Int) < (s : Int) + (m' : Int)) := by omega
            go_wp2
            go_round
            case rel => exact ⟨k + 1, s + m', by omega, by omega, by go_num, by go_num, Lib.hid fun j hj => by
              by_cases e : j = k
              · rw [e, HM.out]; omega
              · exact HK.out j (by omega)⟩
            case measure => simp [intOf]; omega
      · obtain rfl : k = n := by omega
        go_wp2
        go_ret
        exact ⟨true, rfl, fun _ => ⟨hm, HK.out⟩, rfl⟩
set_option maxRecDepth 100000 in
set_option maxHeartbeats 16000000 in
theorem walk_FnEncodeArrayStrings (W : World) (v : Value) (zs : List ByteArray) (hv : Cells.At W v (StrF zs) zs.length) (hz : ∀ s ∈ zs, s.size ≤ maxLen) (hdr : DrBelow W.heap.size W) :
    Calls Tryz.prog 4 #[v] W fun e w' => e = .returned (.bool true) ∧ Below W.heap.size W w' := by
  obtain ⟨n, hn⟩ : ∃ n, zs.length = n := ⟨_, rfl⟩
  rw [hn] at hv
  have HDR := Lib.hid hdr
  have HMX : Hid (∀ j, j < n → szAt zs j ≤ maxLen) := Lib.hid fun j hj => by
    unfold szAt
    rw [List.getD_eq_getElem?_getD, List.getElem?_eq_getElem (by omega)]
    exact hz _ (List.getElem_mem _)
  have HN := Lib.hid hn
  clear hdr hz
  have HV := Lib.hid hv
  obtain ⟨a, cap, rfl, hcc⟩ := hv
  have HC : Hid (TextCells zs n a W) := Lib.hid hcc
  clear hcc
  go_enter Tryz.func4, Tryz.ntmps4
  go_wp2_with fail
  refine (zzbS zs n a cap _ HC.out HMX.out).mono ?_
  rintro e w' ⟨b, rfl, hb, rfl⟩
  cases b with
  | false =>
    go_wp2
    go_ret
    exact ⟨rfl, Below.refl _ _⟩
  | true =>
    obtain ⟨hm, hlen⟩ := hb rfl
    have HLN := Lib.hid hlen
    clear hlen hb
    by_cases c2 : 65536 < n
    · go_wp2
      go_ret
      exact ⟨rfl, Below.refl _ _⟩
    have hnb : n ≤ 65536 := by omega
    go_wp2
    go_loop [3, 4] (fun t i => ∃ k s : Nat, k ≤ n ∧ s ≤ 16 * n + 1048576 * k ∧ t = .int .i64 s ∧ i = .int .i64 k) (fun _ i => n - (intOf i).toNat)
    case atStart => exact ⟨0, 16 * n, Nat.zero_le _, by omega, by go_num, rfl⟩
    case round =>
      obtain ⟨k, s, hk, hs, rfl, rfl⟩ := hrel
      by_cases hlt : k < n
      · obtain ⟨b, off, hx, hbl, hcell⟩ := HC.out (by omega)
        cases hx
        have hcx := hcell k hlt
        obtain ⟨x, hxx⟩ : ∃ x, zs.getD k ByteArray.empty = x := ⟨_, rfl⟩
        have hml := HLN.out k hlt
        unfold szAt at hml
        rw [hxx] at hcx hml
        clear hcell hxx
        obtain ⟨m', hm2⟩ : ∃ m', x.size = m' := ⟨_, rfl⟩
        rw [hm2] at hml
        go_wp2
        go_round
        case rel => exact ⟨k + 1, s + m', by omega, by omega, by go_num, by go_num⟩
        case measure => simp [intOf]; omega
      · obtain rfl : n = k := by omega
        have HZS : Hid (Sizes zs) := Lib.hid fun j => by
          by_cases hj : j < n
          · exact HLN.out j hj
          · rw [List.getD_eq_getElem?_getD, List.getElem?_eq_none (by rw [HN.out]; omega)]
            exact Nat.zero_le _
        by_cases c3 : 1048576 < s
        · go_wp2
          go_ret
          exact ⟨rfl, Below.refl _ _⟩
        clear hlt hs
        have hn := HN.out
        go_wp2_with fail
        refine (cloneB2_any zs n _ (by omega) _ HV.out).mono ?_
        rintro e w0 ⟨⟨v0, rfl, hv0⟩, hb0⟩
        have HV0 := Lib.hid hv0
        have HB0 := Lib.hid hb0
        clear hb0
        obtain ⟨a0, cap0, rfl, hc0⟩ := hv0
        have HC0 := Lib.hid hc0
        clear hc0
        obtain ⟨zr, hzr⟩ : ∃ zr, encB zs n = zr := ⟨_, rfl⟩
        have HZR := Lib.hid hzr
        clear hzr
        go_wp2_with (first
          | (at_make; refine Own.wpList_make_buf rfl _ _ 33 rfl 5 Tryz.underlying33 info_u8e w0.heap.size w0 (Below.refl _ _) (Nat.le_refl _) _ _ _ (2 + s) rfl rfl (by omega) (by omega) ?_; intro vm w1 hbm)
          | (at_builtin; refine Own.wpList_buf_bytes rfl _ _ 33 rfl 5 Tryz.underlying33 info_u8e w0.heap.size w0 _ _ rfl (hbm.alloc _) ⟨w1.heap.size, 0, none⟩ 1 1 [91] rfl rfl (Own.new_cells _ _ _ _ rfl) (by decide) ?_))
        intro vs ws hbs
        have HS := Lib.hid (show Own.Buf 5 w0.heap.size w0 ws vs [91] from by simpa using hbs)
        clear hbs hbm
        go_wp2_with fail
        go_loopw [5, 6] (fun o i wr => ∃ k : Nat, k ≤ n ∧ i = .int .i64 k ∧ Hid (Own.Buf 5 w0.heap.size w0 wr o (91 :: Esc.glue (zs.map qt) [44] k))) (fun _ i _ => n - (intOf i).toNat)
        case atStart => exact ⟨0, Nat.zero_le _, rfl, HS⟩
        case round =>
          obtain ⟨k, hk, rfl, HR⟩ := hrel
          by_cases hlt : k < n
          · obtain ⟨b, off, rfl, hbl, hcell⟩ := HC0.out (by omega)
            have hin := HZS.out k
            have hgl := glue_lenQ zs HZS.out k (by omega)
            have hgs : Esc.glue (zs.map qt) [44] (k + 1) = (Esc.glue (zs.map qt) [44] k ++ (if k = 0 then [] else [44])) ++ qt (zs.getD k ByteArray.empty) := by
              show Esc.glue (zs.map qt) [44] k ++ ((if k = 0 then [] else [44]) ++ (zs.map qt).getD k []) = _
              rw [getD_mapQ zs k (by omega), List.append_assoc]
            have hcx0 := hcell k hlt
            unfold StrF at hcx0
            obtain ⟨z, hz⟩ : ∃ z, zs.getD k ByteArray.empty = z := ⟨_, rfl⟩
            rw [hz] at hin hgs hcx0
            have hcx : wr.cell? ⟨b, off + k, none⟩ = some (.string z) := (HR.out.below.cell (p := ⟨b, off + k, none⟩) hbl).trans hcx0
            have hit := fun w => modelQuote_any z z.size rfl hin w
            have hil := qt_len hin
            obtain ⟨s, hs⟩ : ∃ s : ByteArray, (⟨(Quo.quote z.data.toList).toArray⟩ : ByteArray) = s := ⟨_, rfl⟩
            have hzl : s.data.toList = qt z := by rw [← hs]; rfl
            rw [hs] at hit
            have HIT := Lib.hid hit
            have HIL := Lib.hid hil
            have HZL := Lib.hid hzl
            clear hit hil hs hzl hz hin hcell
            by_cases k0 : k = 0
            · obtain ⟨X, hX⟩ : ∃ X, 91 :: Esc.glue (zs.map qt) [44] k = X := ⟨_, rfl⟩
              have hXl : X.length ≤ 500000000000 := by rw [← hX, List.length_cons]; omega
              have HGS := Lib.hid (show 91 :: Esc.glue (zs.map qt) [44] (k + 1) = X ++ qt z from by rw [hgs, if_pos k0, ← hX]; simp)
              rw [hX] at HR
              have HX := HR
              have hk0 : ¬ ((0 : Int) < (k : Int)) := by omega
              have K0 := Lib.hid k0
              clear hgs hX hgl k0 hcx0
              have HLEN := Lib.hid (show X.length ≤ 500000000000 from hXl)
              go_wp2_with (first
                | (go_at_call 14; refine (HIT.out _).mono ?_; rintro e w3 ⟨rfl, hb3⟩)
                | (at_builtin; refine Own.wpList_buf_str rfl _ _ 33 9 rfl 5 Tryz.underlying33 Tryz.underlying9 info_u8e w0.heap.size w0 _ _ rfl (HX.out.later hb3) s (qt z) rfl HZL.out (by have h0 := HLEN.out; have h1 := HIL.out; omega) ?_))
              intro v2 w2 hb2
              replace hb2 := Lib.hid (show Own.Buf 5 w0.heap.size w0 w2 v2 (91 :: Esc.glue (zs.map qt) [44] (k + 1)) from by rw [HGS.out]; simpa using hb2)
              go_wp2
              go_roundw
              case rel => exact ⟨k + 1, by omega, by go_num, hb2⟩
              case measure => simp [intOf]; omega
            · obtain ⟨X, hX⟩ : ∃ X, 91 :: Esc.glue (zs.map qt) [44] k ++ [44] = X := ⟨_, rfl⟩
              have hXl : X.length ≤ 500000000000 := by rw [← hX]; simp only [List.length_append, List.length_cons, List.length_nil]; omega
              have HGS := Lib.hid (show 91 :: Esc.glue (zs.map qt) [44] (k + 1) = X ++ qt z from by rw [hgs, if_neg k0, ← hX]; simp)
              have HXE := Lib.hid hX
              have hk0 : (0 : Int) < (k : Int) := by omega
              clear hgs hX
              go_wp2_with (at_builtin; refine Own.wpList_buf_bytes rfl _ _ 33 rfl 5 Tryz.underlying33 info_u8e w0.heap.size w0 _ _ rfl (HR.out.alloc _) ⟨wr.heap.size, 0, none⟩ 1 1 [44] rfl rfl (Own.new_cells _ _ _ _ rfl) (by simp only [List.length_cons, List.length_nil]; omega) ?_)
              intro v0 wx hbx
              have HX := Lib.hid (show Own.Buf 5 w0.heap.size w0 wx v0 X from by rw [← HXE.out]; simpa using hbx)
              have hcx2 : wx.cell? ⟨b, off + k, none⟩ = some (.string z) := (HX.out.below.cell (p := ⟨b, off + k, none⟩) hbl).trans hcx0
              clear hbx hgl hcx hcx0
              have HLEN := Lib.hid (show X.length ≤ 500000000000 from hXl)
              go_wp2_with (first
                | (go_at_call 14; refine (HIT.out _).mono ?_; rintro e w3 ⟨rfl, hb3⟩)
                | (at_builtin; refine Own.wpList_buf_str rfl _ _ 33 9 rfl 5 Tryz.underlying33 Tryz.underlying9 info_u8e w0.heap.size w0 _ _ rfl (HX.out.later hb3) s (qt z) rfl HZL.out (by have h0 := HLEN.out; have h1 := HIL.out; omega) ?_))
              intro v2 w2 hb2
              replace hb2 := Lib.hid (show Own.Buf 5 w0.heap.size w0 w2 v2 (91 :: Esc.glue (zs.map qt) [44] (k + 1)) from by rw [HGS.out]; simpa using hb2)
              go_wp2
              go_roundw
              case rel => exact ⟨k + 1, by omega, by go_num, hb2⟩
              case measure => simp [intOf]; omega
          · obtain rfl : n = k := by omega
            have hgl := glue_lenQ zs HZS.out n (by omega)
            go_wp2_with (at_builtin; refine Own.wpList_buf_bytes rfl _ _ 33 rfl 5 Tryz.underlying33 info_u8e w0.heap.size w0 _ _ rfl (HR.out.alloc _) ⟨wr.heap.size, 0, none⟩ 1 1 [93] rfl rfl (Own.new_cells _ _ _ _ rfl) (by simp only [List.length_cons, List.length_nil]; omega) ?_)
            intro vf wf hbf
            have HF := Lib.hid (show Own.Buf 5 w0.heap.size w0 wf vf (encL zs n) from by unfold encL; simpa using hbf)
            clear hbf hgl
            have hcv : ∀ w, Below wf.heap.size wf w → (convert 33 9 vf).run Tryz.prog w = .ok (.string zr) w := fun w hb => by
              rw [← HZR.out]
              exact Own.own_text (P := Tryz.prog) 33 9 5 Tryz.underlying33 Tryz.underlying5 Tryz.underlying9 (Own.ownsRow_later HF.out.row hb)
            have HZ : Hid (∀ w, Below wf.heap.size wf w → Calls Tryz.prog 15 #[.slice a0 n cap0] w fun e w' => e = .returned (.string zr) ∧ Below wf.heap.size wf w') := Lib.hid fun w hb => by
              rw [← HZR.out]
              have h0 : Below w0.heap.size w0 w := HF.out.below.trans (hb.mono HF.out.base)
              exact (zzEnc_any zs n hn HZS.out hnb _ W.heap.size w (Nat.le_trans HB0.out.size h0.size) (HDR.out.on (HB0.out.trans (h0.mono HB0.out.size))) (HV0.out.later h0)).mono fun e w' ⟨h1, h2⟩ => ⟨h1, hb.trans (h2.mono hb.size)⟩
            have hcv1 := hcv _ (Below.refl _ _).drew
            have HCV := Lib.hid hcv
            clear hcv
            go_wp2_with fail
            go_region_with (go_at_call 15; refine (HZ.out _ ?_).mono ?_; (first | exact (Below.refl _ _).drew | exact Below.refl _ _); rintro e w3 ⟨rfl, hb3⟩; have hcv3 := HCV.out _ hb3)
            all_goals (try go_wp2_with fail)
            all_goals go_returns
            all_goals exact ⟨rfl, HB0.out.trans ((HF.out.below.trans (hb3.mono HF.out.base)).mono HB0.out.size)⟩
end Go.Proofs.YtcneanhebfdceaaGreatFmt
