/- Contracts: encodeString over a strings.Builder at every text. -/
import Derived.Test.YtngdcnljbfkneaaGreatFmtEncArr
import Derived.Test.YtngdcnljbfkneaaGreatFmtStr
import Derived.Test.YtngdcnljbfkneaaGreatFmtQuo
import Derived.Test.YtngdcnljbfkneaaGreatFmtDr
import Derived.WalkSmall
import Derived.Shelf.Strings.MapAny
import Derived.Laws.Strings2
import Derived.StillTailTactics
namespace Go.Proofs.YtngdcnljbfkneaaGreatFmt
open Go.RowKit Go.Deep Go.Lib Go.Sort

theorem encAt_str {B b eb : Nat} {l : List UInt8} {W w : World} (h : EncAt B b eb l W w) (s : ByteArray) (m : List UInt8) (hm : s.data.toList = m) (hlen : l.length + m.length ≤ 140737488355328) (hB : B ≤ W.heap.size) (hne : eb ≠ b) :
    Calls Tryz.prog 257 #[.pointer (some ⟨b, 0, none⟩), .string s] w fun e w' => e = .returned (.tuple #[.int .i64 s.size, .nilIface]) ∧ EncAt B b eb (l ++ m) W w' := by
  subst hm
  refine (writeString_k B b _ s w h.1 (by rw [Own.byteCells_len]; exact hlen) (Nat.le_trans hB h.2.2.size)).mono fun e w' ⟨he, h1, h2, h3⟩ => ⟨he, ?_, ?_, h.2.2.trans ⟨h2, kv_others h.1 h3⟩⟩
  · rw [Own.byteCells_append]; exact Or.inr h1
  · exact h.2.1.others h3 (by decide) (fun c => hne (by injection c))
theorem EncAt.later {B b eb : Nat} {l : List UInt8} {W w w' : World} (h : EncAt B b eb l W w) (hb : Below w.heap.size w w') (hB : B ≤ W.heap.size) (hne : eb ≠ b) : EncAt B b eb l W w' :=
  ⟨isBuilder_only h.1 h.2.1 (Only.of_below hb) hne (by decide), h.2.1.later hb, h.2.2.later hb (Nat.le_trans hB h.2.2.size)⟩
theorem EncAt.cell {B b eb : Nat} {l : List UInt8} {W w : World} (h : EncAt B b eb l W w) : w.cell? ⟨eb, 0, none⟩ = some (.iface 37 (.pointer (some ⟨b, 0, none⟩))) := h.2.1.writer
/-- Before place k of the text m: what the builder holds, and the bytes from u on that are still to be written. -/
def QSt (B b eb : Nat) (l0 m : List UInt8) (u k : Nat) (W w : World) : Prop := ∃ out, EncAt B b eb (l0 ++ 34 :: out) W w ∧ Quo.Upto m k (out ++ (m.drop u).take (k - u)) ∧ u ≤ k
def FSt (B b eb : Nat) (l0 m : List UInt8) (k : Nat) (W w : World) : Prop := ∃ out, EncAt B b eb (l0 ++ 34 :: out) W w ∧ Quo.Upto m k out
theorem below_drewN (B : Nat) (w : World) (d : Nat) : Below B w (w.drewN d) := ⟨rfl, rfl, rfl, Nat.le_refl _, fun _ _ => rfl⟩
theorem QSt.later {B b eb : Nat} {l0 m : List UInt8} {u k : Nat} {W w w' : World} (h : QSt B b eb l0 m u k W w) (hb : Below w.heap.size w w') (hB : B ≤ W.heap.size) (hne : eb ≠ b) : QSt B b eb l0 m u k W w' := by
  obtain ⟨out, h1, h2⟩ := h
  exact ⟨out, h1.later hb hB hne, h2⟩
theorem QSt.cell {B b eb : Nat} {l0 m : List UInt8} {u k : Nat} {W w : World} (h : QSt B b eb l0 m u k W w) : w.cell? ⟨eb, 0, none⟩ = some (.iface 37 (.pointer (some ⟨b, 0, none⟩))) := by
  obtain ⟨out, h1, _⟩ := h
  exact h1.cell
theorem QSt.keep {B b eb : Nat} {l0 m : List UInt8} {u k : Nat} {W w : World} (h : QSt B b eb l0 m u k W w) (hk : k < m.length) (d : Nat) (hw : Quo.stepW m k = d) (ho : Quo.stepO m k = (m.drop k).take d) : QSt B b eb l0 m u (k + d) W w := by
  obtain ⟨out, h1, h2, h3⟩ := h
  refine ⟨out, h1, ?_, by omega⟩
  have := h2.step hk d _ hw ho
  have e : (m.drop u).take (k + d - u) = (m.drop u).take (k - u) ++ (m.drop k).take d := by
    rw [show k + d - u = (k - u) + d by omega, List.take_add, List.drop_drop, show u + (k - u) = k by omega]
  rw [e, ← List.append_assoc]
  exact this
theorem QSt.flat {B b eb : Nat} {l0 m : List UInt8} {u k : Nat} {W w : World} (h : QSt B b eb l0 m u k W w) (hu : ¬ u < k) : FSt B b eb l0 m k W w := by
  obtain ⟨out, h1, h2, h3⟩ := h
  obtain rfl : u = k := by omega
  rw [Nat.sub_self, List.take_zero, List.append_nil] at h2
  exact ⟨out, h1, h2⟩
theorem QSt.flush {B b eb : Nat} {l0 : List UInt8} {u k : Nat} {W w : World} (s : ByteArray) (h : QSt B b eb l0 s.data.toList u k W w) (hk : k ≤ s.data.toList.length) (hlen : l0.length + 8 * s.data.toList.length ≤ 140737488350000) (hB : B ≤ W.heap.size) (hne : eb ≠ b) :
    Calls Tryz.prog 257 #[.pointer (some ⟨b, 0, none⟩), .string (s.extract u k)] w fun e w' => (∃ n : Int, e = .returned (.tuple #[.int .i64 n, .nilIface])) ∧ FSt B b eb l0 s.data.toList k W w' := by
  obtain ⟨out, h1, h2, h3⟩ := h
  have e : (s.extract u k).data.toList = (s.data.toList.drop u).take (k - u) := by
    rw [ByteArray.data_extract, Array.toList_extract, List.extract_eq_take_drop]
  have hL := h2.2.2
  rw [List.length_append] at hL
  refine (encAt_str h1 (s.extract u k) _ e (by simp only [List.length_append, List.length_cons] at hL ⊢; omega) hB hne).mono fun e w' ⟨he, h⟩ => ⟨⟨_, he⟩, out ++ (s.data.toList.drop u).take (k - u), ?_, h2⟩
  simpa using h
theorem FSt.put {B b eb : Nat} {l0 m : List UInt8} {k : Nat} {W w2 : World} {out o : List UInt8} (hU : Quo.Upto m k out) (hk : k < m.length) (d : Nat) (hw : Quo.stepW m k = d) (ho : Quo.stepO m k = o) (h : EncAt B b eb ((l0 ++ 34 :: out) ++ o) W w2) : QSt B b eb l0 m (k + d) (k + d) W w2 := by
  refine ⟨out ++ o, by simpa using h, ?_, Nat.le_refl _⟩
  rw [Nat.sub_self, List.take_zero, List.append_nil]
  exact hU.step hk d o hw ho
theorem hex_at (i : Nat) (h : i < 16) : (⟨#[48, 49, 50, 51, 52, 53, 54, 55, 56, 57, 97, 98, 99, 100, 101, 102]⟩ : ByteArray).data.toList.getD i 0 = Quo.hexD i := by
  have : ∀ j : Fin 16, (⟨#[48, 49, 50, 51, 52, 53, 54, 55, 56, 57, 97, 98, 99, 100, 101, 102]⟩ : ByteArray).data.toList.getD j.1 0 = Quo.hexD j.1 := by decide +kernel
  exact this ⟨i, h⟩
theorem and15 : ∀ c : Fin 256, bits .and .u8 (c.1 : Int) 15 = (c.1 : Int) % 16 := by decide +kernel
theorem dec_case (s : ByteArray) (n k : Nat) (hn : s.size = n) (hk : k < n) (h : ¬ Quo.at0 s.data.toList k < 128) :
    ∃ R V : Nat, Lib.decodeGo (s.extract k n) = (R, V) ∧ ((R = 65533 ∧ V = 1 ∧ Quo.stepW s.data.toList k = 1 ∧ Quo.stepO s.data.toList k = [92, 117, 102, 102, 102, 100]) ∨ (2 ≤ V ∧ V ≤ 4 ∧ Quo.stepW s.data.toList k = V ∧ Quo.stepO s.data.toList k = (s.data.toList.drop k).take V)) := by
  have hl : s.data.toList.length = n := hn
  have hg : ∀ i, (s.get! i).toNat = Quo.at0 s.data.toList i := fun i => by
    unfold Quo.at0
    have e : s.get! i = s.data.toList.getD i 0 := by
      cases s with
      | mk d =>
        show d[i]! = d.toList.getD i 0
        rw [List.getD_eq_getElem?_getD, Array.getElem?_toList, getElem!_def]
        cases d[i]? <;> rfl
    rw [e]
  have e : Lib.decodeGo (s.extract k n) = decodeN (n - k) (Quo.at0 s.data.toList k) (Quo.at0 s.data.toList (k + 1)) (Quo.at0 s.data.toList (k + 2)) (Quo.at0 s.data.toList (k + 3)) := by
    rw [← hn, decodeGo_extract s k (by omega), Lib.decode_at, hg, hg, hg, hg]
  have lt : ∀ i, Quo.at0 s.data.toList i < 256 := fun i => (s.data.toList.getD i 0).toNat_lt
  have hs : Quo.seqAt s.data.toList k = Quo.vseq (n - k) (Quo.at0 s.data.toList k) (Quo.at0 s.data.toList (k + 1)) (Quo.at0 s.data.toList (k + 2)) (Quo.at0 s.data.toList (k + 3)) := by unfold Quo.seqAt; rw [hl]
  rcases Quo.decode_vseq (n - k) _ _ _ _ (by omega) (by omega) (lt k) (lt (k + 1)) (lt (k + 2)) (lt (k + 3)) with ⟨h1, h2⟩ | ⟨h1, h2⟩
  · refine ⟨65533, 1, e.trans h2, .inl ⟨rfl, rfl, ?_, ?_⟩⟩
    · unfold Quo.stepW; rw [if_neg h, if_pos (hs.trans h1)]
    · unfold Quo.stepO; rw [if_neg h, if_pos (hs.trans h1)]
  · refine ⟨_, Quo.seqAt s.data.toList k, e.trans (Prod.ext rfl (h2.trans hs.symm)), .inr ⟨by rw [hs]; exact h1, ?_, ?_, ?_⟩⟩
    · rcases Quo.vseq_le (n - k) (Quo.at0 s.data.toList k) (Quo.at0 s.data.toList (k + 1)) (Quo.at0 s.data.toList (k + 2)) (Quo.at0 s.data.toList (k + 3)) with h3 | h3
      · rw [hs, h3]; omega
      · rw [hs]; exact h3.2.1
    · unfold Quo.stepW; rw [if_neg h, if_neg (by rw [hs]; omega)]
    · unfold Quo.stepO; rw [if_neg h, if_neg (by rw [hs]; omega)]
set_option maxHeartbeats 16000000 in
set_option maxRecDepth 100000 in
theorem encString_any (B b eb : Nat) (l0 : List UInt8) (s : ByteArray) (n : Nat) (hn : s.size = n) (hsz : n ≤ 1048576) (hl0 : l0.length ≤ 1000000000000) (W w0 : World) (hB : B ≤ W.heap.size) (hne : eb ≠ b) (h : EncAt B b eb l0 W w0)
    (hdr : DrBelow B W) :
    Calls Tryz.prog 22 #[.pointer (some ⟨eb, 0, none⟩), .string s] w0 fun e w' => e = .returned (.tuple #[]) ∧ EncAt B b eb (l0 ++ Quo.quote s.data.toList) W w' := by
  have hl : s.data.toList.length = n := hn
  have H1 := Lib.hid (encAt_byte h 34 34 rfl (by omega) hB hne)
  have hw0 := h.cell
  have HDR := Lib.hid hdr
  have HL := Lib.hid hl
  have HLEN : Hid (∀ k out, k ≤ n → Quo.Upto s.data.toList k out → (l0 ++ 34 :: out).length ≤ 1000010000000) := Lib.hid fun k out hk hu => by
    have := hu.2.2
    simp only [List.length_append, List.length_cons]
    omega
  have HFL : Hid (∀ a k w1, k ≤ n → QSt B b eb l0 s.data.toList a k W w1 → ∀ w, Below w1.heap.size w1 w → Calls Tryz.prog 257 #[.pointer (some ⟨b, 0, none⟩), .string (s.extract a k)] w fun e w' => (∃ n : Int, e = .returned (.tuple #[.int .i64 n, .nilIface])) ∧ FSt B b eb l0 s.data.toList k W w') := Lib.hid fun a k w1 hk h w hb => by
    obtain ⟨out, h1, h2⟩ := h
    exact QSt.flush s (u := a) (k := k) (W := W) (w := w) ⟨out, h1.later hb hB hne, h2⟩ (by omega) (by omega) hB hne
  clear h hdr hl
  go_enter Tryz.func22, Tryz.ntmps22
  go_wp2_with (go_at_call 256; refine H1.out.mono ?_; rintro e w1 ⟨rfl, h1⟩)
  have HS : Hid (QSt B b eb l0 s.data.toList 0 0 W w1) := Lib.hid ⟨[], h1, Quo.Upto.start _, Nat.le_refl _⟩
  clear h1 hw0
  go_loopw [4, 5] (fun u i wr => ∃ a k : Nat, a ≤ k ∧ k ≤ n ∧ u = .int .i64 a ∧ i = .int .i64 k ∧ Hid (QSt B b eb l0 s.data.toList a k W wr)) (fun _ i _ => n - (RowKit.intOf i).toNat)
  case atStart => exact ⟨0, 0, Nat.zero_le _, Nat.zero_le _, rfl, rfl, HS⟩
  case round =>
    obtain ⟨a, k, hak, hk, rfl, rfl, HR⟩ := hrel
    have hw1 : wr.cell? ⟨eb, 0, none⟩ = some (.iface 37 (.pointer (some ⟨b, 0, none⟩))) := by obtain ⟨_, hE, _⟩ := HR.out; exact hE.cell
    have hss : ∀ w, (Instr.slice 9 (.string s) (some (.int .i64 a)) (some (.int .i64 k)) none).run Tryz.prog w = .ok (.string (s.extract a k)) w := fun w => by
      rw [run_slice_string w 9 s .i64 .i64 a k Tryz.underlying9 (by omega) (by omega) (by omega)]; simp
    by_cases hlt : k < n
    · have hi0 := fun w => Str.idx_str (P := Tryz.prog) 9 Tryz.underlying9 s .i64 (k : Int) k rfl (by omega) w
      obtain ⟨c, hc⟩ : ∃ c, s.data.toList.getD k 0 = c := ⟨_, rfl⟩
      rw [hc] at hi0
      obtain ⟨z, hz⟩ : ∃ z : Int, (c.toNat : Int) = z := ⟨_, rfl⟩
      rw [hz] at hi0
      have HZ := Lib.hid hz
      have HCC := Lib.hid hc
      have hz0 : 0 ≤ z ∧ z ≤ 255 := by have := c.toNat_lt; omega
      have hkl : k < s.data.toList.length := by have := HL.out; omega
      have HKL := Lib.hid hkl
      have HAT : Hid (Quo.at0 s.data.toList k = c.toNat) := Lib.hid (by unfold Quo.at0; rw [hc])
      clear hz hc hkl
      by_cases p0 : z < 128
      · have HW1 : Hid (Quo.stepW s.data.toList k = 1) := Lib.hid (by unfold Quo.stepW; rw [if_pos (by rw [HAT.out]; have := HZ.out; omega)])
        have HO1 : Hid (Quo.stepO s.data.toList k = Quo.esc c) := Lib.hid (by unfold Quo.stepO; rw [if_pos (by rw [HAT.out]; have := HZ.out; omega), HCC.out])
        by_cases pk : 32 ≤ z ∧ z ≤ 126 ∧ z ≠ 34 ∧ z ≠ 92
        · have p1 := pk.1
          have p2 := pk.2.1
          have p3 : (z != 34) = true := by have := pk.2.2.1; simp; omega
          have p4 : (z != 92) = true := by have := pk.2.2.2; simp; omega
          have p5 : ¬ z = 34 := pk.2.2.1
          have p6 : ¬ z = 92 := pk.2.2.2
          have hnew : Hid (QSt B b eb l0 s.data.toList a (k + 1) W wr) := Lib.hid (HR.out.keep HKL.out 1 HW1.out (by
            have hz := HZ.out
            have he : Quo.esc c = [c] := by
              unfold Quo.esc
              rw [if_neg (by omega), if_neg (by omega), if_neg (by omega), if_neg (by omega), if_neg (by omega), if_neg (by omega), if_neg (by omega), if_neg (by omega)]
            rw [HO1.out, he, Esc.drop_one _ _ HKL.out, HCC.out]; rfl))
          clear pk hss
          go_wp2
          go_roundw
          case rel => exact ⟨a, k + 1, by omega, by omega, rfl, by go_num, hnew⟩
          case measure => simp [RowKit.intOf]; omega
        · rcases (show z = 34 ∨ z = 92 ∨ z = 8 ∨ z = 12 ∨ z = 10 ∨ z = 13 ∨ z = 9 ∨ (z < 32 ∧ z ≠ 34 ∧ z ≠ 92 ∧ z ≠ 8 ∧ z ≠ 12 ∧ z ≠ 10 ∧ z ≠ 13 ∧ z ≠ 9) ∨ z = 127 by omega) with hcz | hcz | hcz | hcz | hcz | hcz | hcz | hcz | hcz
          · subst hcz
            have HO2 : Hid (Quo.stepO s.data.toList k = [92, 34]) := Lib.hid (by rw [HO1.out]; have hz := HZ.out; unfold Quo.esc; simp only [show c.toNat = 34 by omega]; rfl)
            clear pk HO1
            by_cases cu : a < k
            · as_aux_lemma =>
                have cu2 : (a : Int) < (k : Int) := by omega
                go_wp2_with fail
                go_still_tail 10, (by kernel_rfl)
                go_wp2_with fail
                refine (HFL.out a k wr hk HR.out _ ?_).mono ?_
                · (first | exact Below.refl _ _ | exact below_drewN _ _ _ | exact (Below.refl _ _).drew)
                rintro e w2 ⟨⟨nn, rfl⟩, hf⟩
                obtain ⟨out, hE, hU⟩ := hf
                have hw2 := hE.cell
                have HE := Lib.hid hE
                have HU := Lib.hid hU
                have HEL := Lib.hid (HLEN.out k out hk hU)
                clear hE hU
                go_wp2_with (go_at_call 257; refine (encAt_str HE.out ⟨#[92, 34]⟩ [92, 34] rfl (by have := HEL.out; simp only [List.length_cons, List.length_nil]; omega) hB hne).mono ?_; rintro e w3 ⟨rfl, h3⟩)
                have hnew : Hid (QSt B b eb l0 s.data.toList (k + 1) (k + 1) W w3) := Lib.hid (FSt.put HU.out HKL.out 1 HW1.out HO2.out h3)
                go_wp2
                go_roundw
                case rel => exact ⟨k + 1, k + 1, Nat.le_refl _, by have := Quo.stepW_le s.data.toList k HKL.out; have := HL.out; have := HW1.out; omega, by go_num, by go_num, hnew⟩
                case measure => simp [RowKit.intOf]; omega
            · as_aux_lemma =>
                have cu2 : ¬ ((a : Int) < (k : Int)) := by omega
                obtain ⟨out, hE, hU⟩ := HR.out.flat cu
                have hw2 := hE.cell
                have HE := Lib.hid hE
                have HU := Lib.hid hU
                have HEL := Lib.hid (HLEN.out k out hk hU)
                clear hE hU
                go_wp2_with (go_at_call 257; refine (encAt_str HE.out ⟨#[92, 34]⟩ [92, 34] rfl (by have := HEL.out; simp only [List.length_cons, List.length_nil]; omega) hB hne).mono ?_; rintro e w3 ⟨rfl, h3⟩)
                have hnew : Hid (QSt B b eb l0 s.data.toList (k + 1) (k + 1) W w3) := Lib.hid (FSt.put HU.out HKL.out 1 HW1.out HO2.out h3)
                go_wp2
                go_roundw
                case rel => exact ⟨k + 1, k + 1, Nat.le_refl _, by have := Quo.stepW_le s.data.toList k HKL.out; have := HL.out; have := HW1.out; omega, by go_num, by go_num, hnew⟩
                case measure => simp [RowKit.intOf]; omega
          · subst hcz
            have HO2 : Hid (Quo.stepO s.data.toList k = [92, 92]) := Lib.hid (by rw [HO1.out]; have hz := HZ.out; unfold Quo.esc; simp only [show c.toNat = 92 by omega]; rfl)
            clear pk HO1
            by_cases cu : a < k
            · as_aux_lemma =>
                have cu2 : (a : Int) < (k : Int) := by omega
                go_wp2_with fail
                go_still_tail 10, (by kernel_rfl)
                go_wp2_with fail
                refine (HFL.out a k wr hk HR.out _ ?_).mono ?_
                · (first | exact Below.refl _ _ | exact below_drewN _ _ _ | exact (Below.refl _ _).drew)
                rintro e w2 ⟨⟨nn, rfl⟩, hf⟩
                obtain ⟨out, hE, hU⟩ := hf
                have hw2 := hE.cell
                have HE := Lib.hid hE
                have HU := Lib.hid hU
                have HEL := Lib.hid (HLEN.out k out hk hU)
                clear hE hU
                go_wp2_with (go_at_call 257; refine (encAt_str HE.out ⟨#[92, 92]⟩ [92, 92] rfl (by have := HEL.out; simp only [List.length_cons, List.length_nil]; omega) hB hne).mono ?_; rintro e w3 ⟨rfl, h3⟩)
                have hnew : Hid (QSt B b eb l0 s.data.toList (k + 1) (k + 1) W w3) := Lib.hid (FSt.put HU.out HKL.out 1 HW1.out HO2.out h3)
                go_wp2
                go_roundw
                case rel => exact ⟨k + 1, k + 1, Nat.le_refl _, by have := Quo.stepW_le s.data.toList k HKL.out; have := HL.out; have := HW1.out; omega, by go_num, by go_num, hnew⟩
                case measure => simp [RowKit.intOf]; omega
            · as_aux_lemma =>
                have cu2 : ¬ ((a : Int) < (k : Int)) := by omega
                obtain ⟨out, hE, hU⟩ := HR.out.flat cu
                have hw2 := hE.cell
                have HE := Lib.hid hE
                have HU := Lib.hid hU
                have HEL := Lib.hid (HLEN.out k out hk hU)
                clear hE hU
                go_wp2_with (go_at_call 257; refine (encAt_str HE.out ⟨#[92, 92]⟩ [92, 92] rfl (by have := HEL.out; simp only [List.length_cons, List.length_nil]; omega) hB hne).mono ?_; rintro e w3 ⟨rfl, h3⟩)
                have hnew : Hid (QSt B b eb l0 s.data.toList (k + 1) (k + 1) W w3) := Lib.hid (FSt.put HU.out HKL.out 1 HW1.out HO2.out h3)
                go_wp2
                go_roundw
                case rel => exact ⟨k + 1, k + 1, Nat.le_refl _, by have := Quo.stepW_le s.data.toList k HKL.out; have := HL.out; have := HW1.out; omega, by go_num, by go_num, hnew⟩
                case measure => simp [RowKit.intOf]; omega
          · subst hcz
            have HO2 : Hid (Quo.stepO s.data.toList k = [92, 98]) := Lib.hid (by rw [HO1.out]; have hz := HZ.out; unfold Quo.esc; simp only [show c.toNat = 8 by omega]; rfl)
            clear pk HO1
            by_cases cu : a < k
            · as_aux_lemma =>
                have cu2 : (a : Int) < (k : Int) := by omega
                go_wp2_with fail
                go_still_tail 10, (by kernel_rfl)
                go_wp2_with fail
                refine (HFL.out a k wr hk HR.out _ ?_).mono ?_
                · (first | exact Below.refl _ _ | exact below_drewN _ _ _ | exact (Below.refl _ _).drew)
                rintro e w2 ⟨⟨nn, rfl⟩, hf⟩
                obtain ⟨out, hE, hU⟩ := hf
                have hw2 := hE.cell
                have HE := Lib.hid hE
                have HU := Lib.hid hU
                have HEL := Lib.hid (HLEN.out k out hk hU)
                clear hE hU
                go_wp2_with (go_at_call 257; refine (encAt_str HE.out ⟨#[92, 98]⟩ [92, 98] rfl (by have := HEL.out; simp only [List.length_cons, List.length_nil]; omega) hB hne).mono ?_; rintro e w3 ⟨rfl, h3⟩)
                have hnew : Hid (QSt B b eb l0 s.data.toList (k + 1) (k + 1) W w3) := Lib.hid (FSt.put HU.out HKL.out 1 HW1.out HO2.out h3)
                go_wp2
                go_roundw
                case rel => exact ⟨k + 1, k + 1, Nat.le_refl _, by have := Quo.stepW_le s.data.toList k HKL.out; have := HL.out; have := HW1.out; omega, by go_num, by go_num, hnew⟩
                case measure => simp [RowKit.intOf]; omega
            · as_aux_lemma =>
                have cu2 : ¬ ((a : Int) < (k : Int)) := by omega
                obtain ⟨out, hE, hU⟩ := HR.out.flat cu
                have hw2 := hE.cell
                have HE := Lib.hid hE
                have HU := Lib.hid hU
                have HEL := Lib.hid (HLEN.out k out hk hU)
                clear hE hU
                go_wp2_with (go_at_call 257; refine (encAt_str HE.out ⟨#[92, 98]⟩ [92, 98] rfl (by have := HEL.out; simp only [List.length_cons, List.length_nil]; omega) hB hne).mono ?_; rintro e w3 ⟨rfl, h3⟩)
                have hnew : Hid (QSt B b eb l0 s.data.toList (k + 1) (k + 1) W w3) := Lib.hid (FSt.put HU.out HKL.out 1 HW1.out HO2.out h3)
                go_wp2
                go_roundw
                case rel => exact ⟨k + 1, k + 1, Nat.le_refl _, by have := Quo.stepW_le s.data.toList k HKL.out; have := HL.out; have := HW1.out; omega, by go_num, by go_num, hnew⟩
                case measure => simp [RowKit.intOf]; omega
          · subst hcz
            have HO2 : Hid (Quo.stepO s.data.toList k = [92, 102]) := Lib.hid (by rw [HO1.out]; have hz := HZ.out; unfold Quo.esc; simp only [show c.toNat = 12 by omega]; rfl)
            clear pk HO1
            by_cases cu : a < k
            · as_aux_lemma =>
                have cu2 : (a : Int) < (k : Int) := by omega
                go_wp2_with fail
                go_still_tail 10, (by kernel_rfl)
                go_wp2_with fail
                refine (HFL.out a k wr hk HR.out _ ?_).mono ?_
                · (first | exact Below.refl _ _ | exact below_drewN _ _ _ | exact (Below.refl _ _).drew)
                rintro e w2 ⟨⟨nn, rfl⟩, hf⟩
                obtain ⟨out, hE, hU⟩ := hf
                have hw2 := hE.cell
                have HE := Lib.hid hE
                have HU := Lib.hid hU
                have HEL := Lib.hid (HLEN.out k out hk hU)
                clear hE hU
                go_wp2_with (go_at_call 257; refine (encAt_str HE.out ⟨#[92, 102]⟩ [92, 102] rfl (by have := HEL.out; simp only [List.length_cons, List.length_nil]; omega) hB hne).mono ?_; rintro e w3 ⟨rfl, h3⟩)
                have hnew : Hid (QSt B b eb l0 s.data.toList (k + 1) (k + 1) W w3) := Lib.hid (FSt.put HU.out HKL.out 1 HW1.out HO2.out h3)
                go_wp2
                go_roundw
                case rel => exact ⟨k + 1, k + 1, Nat.le_refl _, by have := Quo.stepW_le s.data.toList k HKL.out; have := HL.out; have := HW1.out; omega, by go_num, by go_num, hnew⟩
                case measure => simp [RowKit.intOf]; omega
            · as_aux_lemma =>
                have cu2 : ¬ ((a : Int) < (k : Int)) := by omega
                obtain ⟨out, hE, hU⟩ := HR.out.flat cu
                have hw2 := hE.cell
                have HE := Lib.hid hE
                have HU := Lib.hid hU
                have HEL := Lib.hid (HLEN.out k out hk hU)
                clear hE hU
                go_wp2_with (go_at_call 257; refine (encAt_str HE.out ⟨#[92, 102]⟩ [92, 102] rfl (by have := HEL.out; simp only [List.length_cons, List.length_nil]; omega) hB hne).mono ?_; rintro e w3 ⟨rfl, h3⟩)
                have hnew : Hid (QSt B b eb l0 s.data.toList (k + 1) (k + 1) W w3) := Lib.hid (FSt.put HU.out HKL.out 1 HW1.out HO2.out h3)
                go_wp2
                go_roundw
                case rel => exact ⟨k + 1, k + 1, Nat.le_refl _, by have := Quo.stepW_le s.data.toList k HKL.out; have := HL.out; have := HW1.out; omega, by go_num, by go_num, hnew⟩
                case measure => simp [RowKit.intOf]; omega
          · subst hcz
            have HO2 : Hid (Quo.stepO s.data.toList k = [92, 110]) := Lib.hid (by rw [HO1.out]; have hz := HZ.out; unfold Quo.esc; simp only [show c.toNat = 10 by omega]; rfl)
            clear pk HO1
            by_cases cu : a < k
            · as_aux_lemma =>
                have cu2 : (a : Int) < (k : Int) := by omega
                go_wp2_with fail
                go_still_tail 10, (by kernel_rfl)
                go_wp2_with fail
                refine (HFL.out a k wr hk HR.out _ ?_).mono ?_
                · (first | exact Below.refl _ _ | exact below_drewN _ _ _ | exact (Below.refl _ _).drew)
                rintro e w2 ⟨⟨nn, rfl⟩, hf⟩
                obtain ⟨out, hE, hU⟩ := hf
                have hw2 := hE.cell
                have HE := Lib.hid hE
                have HU := Lib.hid hU
                have HEL := Lib.hid (HLEN.out k out hk hU)
                clear hE hU
                go_wp2_with (go_at_call 257; refine (encAt_str HE.out ⟨#[92, 110]⟩ [92, 110] rfl (by have := HEL.out; simp only [List.length_cons, List.length_nil]; omega) hB hne).mono ?_; rintro e w3 ⟨rfl, h3⟩)
                have hnew : Hid (QSt B b eb l0 s.data.toList (k + 1) (k + 1) W w3) := Lib.hid (FSt.put HU.out HKL.out 1 HW1.out HO2.out h3)
                go_wp2
                go_roundw
                case rel => exact ⟨k + 1, k + 1, Nat.le_refl _, by have := Quo.stepW_le s.data.toList k HKL.out; have := HL.out; have := HW1.out; omega, by go_num, by go_num, hnew⟩
                case measure => simp [RowKit.intOf]; omega
            · as_aux_lemma =>
                have cu2 : ¬ ((a : Int) < (k : Int)) := by omega
                obtain ⟨out, hE, hU⟩ := HR.out.flat cu
                have hw2 := hE.cell
                have HE := Lib.hid hE
                have HU := Lib.hid hU
                have HEL := Lib.hid (HLEN.out k out hk hU)
                clear hE hU
                go_wp2_with (go_at_call 257; refine (encAt_str HE.out ⟨#[92, 110]⟩ [92, 110] rfl (by have := HEL.out; simp only [List.length_cons, List.length_nil]; omega) hB hne).mono ?_; rintro e w3 ⟨rfl, h3⟩)
                have hnew : Hid (QSt B b eb l0 s.data.toList (k + 1) (k + 1) W w3) := Lib.hid (FSt.put HU.out HKL.out 1 HW1.out HO2.out h3)
                go_wp2
                go_roundw
                case rel => exact ⟨k + 1, k + 1, Nat.le_refl _, by have := Quo.stepW_le s.data.toList k HKL.out; have := HL.out; have := HW1.out; omega, by go_num, by go_num, hnew⟩
                case measure => simp [RowKit.intOf]; omega
          · subst hcz
            have HO2 : Hid (Quo.stepO s.data.toList k = [92, 114]) := Lib.hid (by rw [HO1.out]; have hz := HZ.out; unfold Quo.esc; simp only [show c.toNat = 13 by omega]; rfl)
            clear pk HO1
            by_cases cu : a < k
            · as_aux_lemma =>
                have cu2 : (a : Int) < (k : Int) := by omega
                go_wp2_with fail
                go_still_tail 10, (by kernel_rfl)
                go_wp2_with fail
                refine (HFL.out a k wr hk HR.out _ ?_).mono ?_
                · (first | exact Below.refl _ _ | exact below_drewN _ _ _ | exact (Below.refl _ _).drew)
                rintro e w2 ⟨⟨nn, rfl⟩, hf⟩
                obtain ⟨out, hE, hU⟩ := hf
                have hw2 := hE.cell
                have HE := Lib.hid hE
                have HU := Lib.hid hU
                have HEL := Lib.hid (HLEN.out k out hk hU)
                clear hE hU
                go_wp2_with (go_at_call 257; refine (encAt_str HE.out ⟨#[92, 114]⟩ [92, 114] rfl (by have := HEL.out; simp only [List.length_cons, List.length_nil]; omega) hB hne).mono ?_; rintro e w3 ⟨rfl, h3⟩)
                have hnew : Hid (QSt B b eb l0 s.data.toList (k + 1) (k + 1) W w3) := Lib.hid (FSt.put HU.out HKL.out 1 HW1.out HO2.out h3)
                go_wp2
                go_roundw
                case rel => exact ⟨k + 1, k + 1, Nat.le_refl _, by have := Quo.stepW_le s.data.toList k HKL.out; have := HL.out; have := HW1.out; omega, by go_num, by go_num, hnew⟩
                case measure => simp [RowKit.intOf]; omega
            · as_aux_lemma =>
                have cu2 : ¬ ((a : Int) < (k : Int)) := by omega
                obtain ⟨out, hE, hU⟩ := HR.out.flat cu
                have hw2 := hE.cell
                have HE := Lib.hid hE
                have HU := Lib.hid hU
                have HEL := Lib.hid (HLEN.out k out hk hU)
                clear hE hU
                go_wp2_with (go_at_call 257; refine (encAt_str HE.out ⟨#[92, 114]⟩ [92, 114] rfl (by have := HEL.out; simp only [List.length_cons, List.length_nil]; omega) hB hne).mono ?_; rintro e w3 ⟨rfl, h3⟩)
                have hnew : Hid (QSt B b eb l0 s.data.toList (k + 1) (k + 1) W w3) := Lib.hid (FSt.put HU.out HKL.out 1 HW1.out HO2.out h3)
                go_wp2
                go_roundw
                case rel => exact ⟨k + 1, k + 1, Nat.le_refl _, by have := Quo.stepW_le s.data.toList k HKL.out; have := HL.out; have := HW1.out; omega, by go_num, by go_num, hnew⟩
                case measure => simp [RowKit.intOf]; omega
          · subst hcz
            have HO2 : Hid (Quo.stepO s.data.toList k = [92, 116]) := Lib.hid (by rw [HO1.out]; have hz := HZ.out; unfold Quo.esc; simp only [show c.toNat = 9 by omega]; rfl)
            clear pk HO1
            by_cases cu : a < k
            · as_aux_lemma =>
                have cu2 : (a : Int) < (k : Int) := by omega
                go_wp2_with fail
                go_still_tail 10, (by kernel_rfl)
                go_wp2_with fail
                refine (HFL.out a k wr hk HR.out _ ?_).mono ?_
                · (first | exact Below.refl _ _ | exact below_drewN _ _ _ | exact (Below.refl _ _).drew)
                rintro e w2 ⟨⟨nn, rfl⟩, hf⟩
                obtain ⟨out, hE, hU⟩ := hf
                have hw2 := hE.cell
                have HE := Lib.hid hE
                have HU := Lib.hid hU
                have HEL := Lib.hid (HLEN.out k out hk hU)
                clear hE hU
                go_wp2_with (go_at_call 257; refine (encAt_str HE.out ⟨#[92, 116]⟩ [92, 116] rfl (by have := HEL.out; simp only [List.length_cons, List.length_nil]; omega) hB hne).mono ?_; rintro e w3 ⟨rfl, h3⟩)
                have hnew : Hid (QSt B b eb l0 s.data.toList (k + 1) (k + 1) W w3) := Lib.hid (FSt.put HU.out HKL.out 1 HW1.out HO2.out h3)
                go_wp2
                go_roundw
                case rel => exact ⟨k + 1, k + 1, Nat.le_refl _, by have := Quo.stepW_le s.data.toList k HKL.out; have := HL.out; have := HW1.out; omega, by go_num, by go_num, hnew⟩
                case measure => simp [RowKit.intOf]; omega
            · as_aux_lemma =>
                have cu2 : ¬ ((a : Int) < (k : Int)) := by omega
                obtain ⟨out, hE, hU⟩ := HR.out.flat cu
                have hw2 := hE.cell
                have HE := Lib.hid hE
                have HU := Lib.hid hU
                have HEL := Lib.hid (HLEN.out k out hk hU)
                clear hE hU
                go_wp2_with (go_at_call 257; refine (encAt_str HE.out ⟨#[92, 116]⟩ [92, 116] rfl (by have := HEL.out; simp only [List.length_cons, List.length_nil]; omega) hB hne).mono ?_; rintro e w3 ⟨rfl, h3⟩)
                have hnew : Hid (QSt B b eb l0 s.data.toList (k + 1) (k + 1) W w3) := Lib.hid (FSt.put HU.out HKL.out 1 HW1.out HO2.out h3)
                go_wp2
                go_roundw
                case rel => exact ⟨k + 1, k + 1, Nat.le_refl _, by have := Quo.stepW_le s.data.toList k HKL.out; have := HL.out; have := HW1.out; omega, by go_num, by go_num, hnew⟩
                case measure => simp [RowKit.intOf]; omega
          · have hz := HZ.out
            obtain ⟨ha, y, hax, hby⟩ : ∃ x y : Int, ((Quo.hexD (c.toNat / 16)).toNat : Int) = x ∧ ((Quo.hexD (c.toNat % 16)).toNat : Int) = y := ⟨_, _, rfl, rfl⟩
            have hia : ∀ w, (Instr.index 9 (.string ⟨#[48, 49, 50, 51, 52, 53, 54, 55, 56, 57, 97, 98, 99, 100, 101, 102]⟩) (.int .u8 (z / 16))).run Tryz.prog w = .ok (.int .u8 ha) w := fun w => by
              rw [Str.idx_str (P := Tryz.prog) 9 Tryz.underlying9 ⟨#[48, 49, 50, 51, 52, 53, 54, 55, 56, 57, 97, 98, 99, 100, 101, 102]⟩ .u8 (z / 16) (c.toNat / 16) (by omega) (by show c.toNat / 16 < 16; omega), ← hax, hex_at _ (by omega)]
            have hib : ∀ w, (Instr.index 9 (.string ⟨#[48, 49, 50, 51, 52, 53, 54, 55, 56, 57, 97, 98, 99, 100, 101, 102]⟩) (.int .u8 (z % 16))).run Tryz.prog w = .ok (.int .u8 y) w := fun w => by
              rw [Str.idx_str (P := Tryz.prog) 9 Tryz.underlying9 ⟨#[48, 49, 50, 51, 52, 53, 54, 55, 56, 57, 97, 98, 99, 100, 101, 102]⟩ .u8 (z % 16) (c.toNat % 16) (by omega) (by show c.toNat % 16 < 16; omega), ← hby, hex_at _ (by omega)]
            have hand : bits .and .u8 z 15 = z % 16 := by have := and15 ⟨c.toNat, c.toNat_lt⟩; rw [← hz]; exact this
            have hib2 : ∀ w, (Instr.index 9 (.string ⟨#[48, 49, 50, 51, 52, 53, 54, 55, 56, 57, 97, 98, 99, 100, 101, 102]⟩) (.int .u8 (bits .and .u8 z 15))).run Tryz.prog w = .ok (.int .u8 y) w := fun w => by rw [hand]; exact hib w
            have HO2 : Hid (Quo.stepO s.data.toList k = [92, 117, 48, 48] ++ [Quo.hexD (c.toNat / 16)] ++ [Quo.hexD (c.toNat % 16)]) := Lib.hid (by rw [HO1.out]; unfold Quo.esc; rw [if_neg (by omega), if_neg (by omega), if_neg (by omega), if_neg (by omega), if_neg (by omega), if_neg (by omega), if_neg (by omega), if_pos (by omega)]; rfl)
            have HAX := Lib.hid hax
            have HBY := Lib.hid hby
            have q1 : ¬ z = 34 := by omega
            have q2 : ¬ z = 92 := by omega
            have q3 : ¬ z = 8 := by omega
            have q4 : ¬ z = 12 := by omega
            have q5 : ¬ z = 10 := by omega
            have q6 : ¬ z = 13 := by omega
            have q7 : ¬ z = 9 := by omega
            have q8 : ¬ 32 ≤ z := by omega
            clear pk HO1 hz hax hby hcz
            by_cases cu : a < k
            · as_aux_lemma =>
                have cu2 : (a : Int) < (k : Int) := by omega
                go_wp2_with fail
                go_still_tail 10, (by kernel_rfl)
                go_wp2_with fail
                refine (HFL.out a k wr hk HR.out _ ?_).mono ?_
                · (first | exact Below.refl _ _ | exact below_drewN _ _ _ | exact (Below.refl _ _).drew)
                rintro e w2 ⟨⟨nn, rfl⟩, hf⟩
                obtain ⟨out, hE, hU⟩ := hf
                have hw2 := hE.cell
                have HE := Lib.hid hE
                have HU := Lib.hid hU
                have HEL := Lib.hid (HLEN.out k out hk hU)
                clear hE hU
                go_wp2_with (go_at_call 257; refine (encAt_str HE.out ⟨#[92, 117, 48, 48]⟩ [92, 117, 48, 48] rfl (by have := HEL.out; simp only [List.length_cons, List.length_nil]; omega) hB hne).mono ?_; rintro e w4 ⟨rfl, h4⟩)
                have hw4 := h4.cell
                have H4 := Lib.hid h4
                clear h4
                go_wp2_with fail
                go_still_tail 9, (by kernel_rfl)
                go_wp2_with fail
                refine (encAt_byte (H4.out.later ?_ hB hne) (Quo.hexD (c.toNat / 16)) ha HAX.out (by have := HEL.out; simp only [List.length_append, List.length_cons, List.length_nil] at this ⊢; omega) hB hne).mono ?_
                · (first | exact Below.refl _ _ | exact below_drewN _ _ _ | exact (Below.refl _ _).drew)
                rintro e w5 ⟨rfl, h5⟩
                have hw5 := h5.cell
                have H5 := Lib.hid h5
                clear h5 H4
                go_wp2_with fail
                go_still_tail 9, (by kernel_rfl)
                go_wp2_with fail
                refine (encAt_byte (H5.out.later ?_ hB hne) (Quo.hexD (c.toNat % 16)) y HBY.out (by have := HEL.out; simp only [List.length_append, List.length_cons, List.length_nil] at this ⊢; omega) hB hne).mono ?_
                · (first | exact Below.refl _ _ | exact below_drewN _ _ _ | exact (Below.refl _ _).drew)
                rintro e w3 ⟨rfl, h3⟩
                have hnew : Hid (QSt B b eb l0 s.data.toList (k + 1) (k + 1) W w3) := Lib.hid (FSt.put HU.out HKL.out 1 HW1.out HO2.out (by simpa using h3))
                go_wp2
                go_roundw
                case rel => exact ⟨k + 1, k + 1, Nat.le_refl _, by have := Quo.stepW_le s.data.toList k HKL.out; have := HL.out; have := HW1.out; omega, by go_num, by go_num, hnew⟩
                case measure => simp [RowKit.intOf]; omega
            · as_aux_lemma =>
                have cu2 : ¬ ((a : Int) < (k : Int)) := by omega
                obtain ⟨out, hE, hU⟩ := HR.out.flat cu
                have hw2 := hE.cell
                have HE := Lib.hid hE
                have HU := Lib.hid hU
                have HEL := Lib.hid (HLEN.out k out hk hU)
                clear hE hU
                go_wp2_with (go_at_call 257; refine (encAt_str HE.out ⟨#[92, 117, 48, 48]⟩ [92, 117, 48, 48] rfl (by have := HEL.out; simp only [List.length_cons, List.length_nil]; omega) hB hne).mono ?_; rintro e w4 ⟨rfl, h4⟩)
                have hw4 := h4.cell
                have H4 := Lib.hid h4
                clear h4
                go_wp2_with fail
                go_still_tail 9, (by kernel_rfl)
                go_wp2_with fail
                refine (encAt_byte (H4.out.later ?_ hB hne) (Quo.hexD (c.toNat / 16)) ha HAX.out (by have := HEL.out; simp only [List.length_append, List.length_cons, List.length_nil] at this ⊢; omega) hB hne).mono ?_
                · (first | exact Below.refl _ _ | exact below_drewN _ _ _ | exact (Below.refl _ _).drew)
                rintro e w5 ⟨rfl, h5⟩
                have hw5 := h5.cell
                have H5 := Lib.hid h5
                clear h5 H4
                go_wp2_with fail
                go_still_tail 9, (by kernel_rfl)
                go_wp2_with fail
                refine (encAt_byte (H5.out.later ?_ hB hne) (Quo.hexD (c.toNat % 16)) y HBY.out (by have := HEL.out; simp only [List.length_append, List.length_cons, List.length_nil] at this ⊢; omega) hB hne).mono ?_
                · (first | exact Below.refl _ _ | exact below_drewN _ _ _ | exact (Below.refl _ _).drew)
                rintro e w3 ⟨rfl, h3⟩
                have hnew : Hid (QSt B b eb l0 s.data.toList (k + 1) (k + 1) W w3) := Lib.hid (FSt.put HU.out HKL.out 1 HW1.out HO2.out (by simpa using h3))
                go_wp2
                go_roundw
                case rel => exact ⟨k + 1, k + 1, Nat.le_refl _, by have := Quo.stepW_le s.data.toList k HKL.out; have := HL.out; have := HW1.out; omega, by go_num, by go_num, hnew⟩
                case measure => simp [RowKit.intOf]; omega
          · have hz := HZ.out
            obtain ⟨ha, y, hax, hby⟩ : ∃ x y : Int, ((Quo.hexD (c.toNat / 16)).toNat : Int) = x ∧ ((Quo.hexD (c.toNat % 16)).toNat : Int) = y := ⟨_, _, rfl, rfl⟩
            have hia : ∀ w, (Instr.index 9 (.string ⟨#[48, 49, 50, 51, 52, 53, 54, 55, 56, 57, 97, 98, 99, 100, 101, 102]⟩) (.int .u8 (z / 16))).run Tryz.prog w = .ok (.int .u8 ha) w := fun w => by
              rw [Str.idx_str (P := Tryz.prog) 9 Tryz.underlying9 ⟨#[48, 49, 50, 51, 52, 53, 54, 55, 56, 57, 97, 98, 99, 100, 101, 102]⟩ .u8 (z / 16) (c.toNat / 16) (by omega) (by show c.toNat / 16 < 16; omega), ← hax, hex_at _ (by omega)]
            have hib : ∀ w, (Instr.index 9 (.string ⟨#[48, 49, 50, 51, 52, 53, 54, 55, 56, 57, 97, 98, 99, 100, 101, 102]⟩) (.int .u8 (z % 16))).run Tryz.prog w = .ok (.int .u8 y) w := fun w => by
              rw [Str.idx_str (P := Tryz.prog) 9 Tryz.underlying9 ⟨#[48, 49, 50, 51, 52, 53, 54, 55, 56, 57, 97, 98, 99, 100, 101, 102]⟩ .u8 (z % 16) (c.toNat % 16) (by omega) (by show c.toNat % 16 < 16; omega), ← hby, hex_at _ (by omega)]
            have hand : bits .and .u8 z 15 = z % 16 := by have := and15 ⟨c.toNat, c.toNat_lt⟩; rw [← hz]; exact this
            have hib2 : ∀ w, (Instr.index 9 (.string ⟨#[48, 49, 50, 51, 52, 53, 54, 55, 56, 57, 97, 98, 99, 100, 101, 102]⟩) (.int .u8 (bits .and .u8 z 15))).run Tryz.prog w = .ok (.int .u8 y) w := fun w => by rw [hand]; exact hib w
            have HO2 : Hid (Quo.stepO s.data.toList k = [92, 117, 48, 48] ++ [Quo.hexD (c.toNat / 16)] ++ [Quo.hexD (c.toNat % 16)]) := Lib.hid (by rw [HO1.out]; unfold Quo.esc; rw [if_neg (by omega), if_neg (by omega), if_neg (by omega), if_neg (by omega), if_neg (by omega), if_neg (by omega), if_neg (by omega), if_pos (by omega)]; rfl)
            have HAX := Lib.hid hax
            have HBY := Lib.hid hby
            have q1 : ¬ z = 34 := by omega
            have q2 : ¬ z = 92 := by omega
            have q3 : ¬ z = 8 := by omega
            have q4 : ¬ z = 12 := by omega
            have q5 : ¬ z = 10 := by omega
            have q6 : ¬ z = 13 := by omega
            have q7 : ¬ z = 9 := by omega
            have q8 : 32 ≤ z := by omega
            have q9 : ¬ z ≤ 126 := by omega
            clear pk HO1 hz hax hby hcz
            by_cases cu : a < k
            · as_aux_lemma =>
                have cu2 : (a : Int) < (k : Int) := by omega
                go_wp2_with fail
                go_still_tail 10, (by kernel_rfl)
                go_wp2_with fail
                refine (HFL.out a k wr hk HR.out _ ?_).mono ?_
                · (first | exact Below.refl _ _ | exact below_drewN _ _ _ | exact (Below.refl _ _).drew)
                rintro e w2 ⟨⟨nn, rfl⟩, hf⟩
                obtain ⟨out, hE, hU⟩ := hf
                have hw2 := hE.cell
                have HE := Lib.hid hE
                have HU := Lib.hid hU
                have HEL := Lib.hid (HLEN.out k out hk hU)
                clear hE hU
                go_wp2_with (go_at_call 257; refine (encAt_str HE.out ⟨#[92, 117, 48, 48]⟩ [92, 117, 48, 48] rfl (by have := HEL.out; simp only [List.length_cons, List.length_nil]; omega) hB hne).mono ?_; rintro e w4 ⟨rfl, h4⟩)
                have hw4 := h4.cell
                have H4 := Lib.hid h4
                clear h4
                go_wp2_with fail
                go_still_tail 9, (by kernel_rfl)
                go_wp2_with fail
                refine (encAt_byte (H4.out.later ?_ hB hne) (Quo.hexD (c.toNat / 16)) ha HAX.out (by have := HEL.out; simp only [List.length_append, List.length_cons, List.length_nil] at this ⊢; omega) hB hne).mono ?_
                · (first | exact Below.refl _ _ | exact below_drewN _ _ _ | exact (Below.refl _ _).drew)
                rintro e w5 ⟨rfl, h5⟩
                have hw5 := h5.cell
                have H5 := Lib.hid h5
                clear h5 H4
                go_wp2_with fail
                go_still_tail 9, (by kernel_rfl)
                go_wp2_with fail
                refine (encAt_byte (H5.out.later ?_ hB hne) (Quo.hexD (c.toNat % 16)) y HBY.out (by have := HEL.out; simp only [List.length_append, List.length_cons, List.length_nil] at this ⊢; omega) hB hne).mono ?_
                · (first | exact Below.refl _ _ | exact below_drewN _ _ _ | exact (Below.refl _ _).drew)
                rintro e w3 ⟨rfl, h3⟩
                have hnew : Hid (QSt B b eb l0 s.data.toList (k + 1) (k + 1) W w3) := Lib.hid (FSt.put HU.out HKL.out 1 HW1.out HO2.out (by simpa using h3))
                go_wp2
                go_roundw
                case rel => exact ⟨k + 1, k + 1, Nat.le_refl _, by have := Quo.stepW_le s.data.toList k HKL.out; have := HL.out; have := HW1.out; omega, by go_num, by go_num, hnew⟩
                case measure => simp [RowKit.intOf]; omega
            · as_aux_lemma =>
                have cu2 : ¬ ((a : Int) < (k : Int)) := by omega
                obtain ⟨out, hE, hU⟩ := HR.out.flat cu
                have hw2 := hE.cell
                have HE := Lib.hid hE
                have HU := Lib.hid hU
                have HEL := Lib.hid (HLEN.out k out hk hU)
                clear hE hU
                go_wp2_with (go_at_call 257; refine (encAt_str HE.out ⟨#[92, 117, 48, 48]⟩ [92, 117, 48, 48] rfl (by have := HEL.out; simp only [List.length_cons, List.length_nil]; omega) hB hne).mono ?_; rintro e w4 ⟨rfl, h4⟩)
                have hw4 := h4.cell
                have H4 := Lib.hid h4
                clear h4
                go_wp2_with fail
                go_still_tail 9, (by kernel_rfl)
                go_wp2_with fail
                refine (encAt_byte (H4.out.later ?_ hB hne) (Quo.hexD (c.toNat / 16)) ha HAX.out (by have := HEL.out; simp only [List.length_append, List.length_cons, List.length_nil] at this ⊢; omega) hB hne).mono ?_
                · (first | exact Below.refl _ _ | exact below_drewN _ _ _ | exact (Below.refl _ _).drew)
                rintro e w5 ⟨rfl, h5⟩
                have hw5 := h5.cell
                have H5 := Lib.hid h5
                clear h5 H4
                go_wp2_with fail
                go_still_tail 9, (by kernel_rfl)
                go_wp2_with fail
                refine (encAt_byte (H5.out.later ?_ hB hne) (Quo.hexD (c.toNat % 16)) y HBY.out (by have := HEL.out; simp only [List.length_append, List.length_cons, List.length_nil] at this ⊢; omega) hB hne).mono ?_
                · (first | exact Below.refl _ _ | exact below_drewN _ _ _ | exact (Below.refl _ _).drew)
                rintro e w3 ⟨rfl, h3⟩
                have hnew : Hid (QSt B b eb l0 s.data.toList (k + 1) (k + 1) W w3) := Lib.hid (FSt.put HU.out HKL.out 1 HW1.out HO2.out (by simpa using h3))
                go_wp2
                go_roundw
                case rel => exact ⟨k + 1, k + 1, Nat.le_refl _, by have := Quo.stepW_le s.data.toList k HKL.out; have := HL.out; have := HW1.out; omega, by go_num, by go_num, hnew⟩
                case measure => simp [RowKit.intOf]; omega
      · have HDK := HDR.out wr (by obtain ⟨_, hE, _⟩ := HR.out; exact hE.2.2.toBelow) (s.extract k n)
        have hse : ∀ w, (Instr.slice 9 (.string s) (some (.int .i64 k)) none none).run Tryz.prog w = .ok (.string (s.extract k n)) w := fun w => by
          rw [run_slice_string_l w 9 s Tryz.underlying9 .i64 k (by omega) (by omega)]; simp [hn]
        obtain ⟨R, V, hRV, hcase⟩ := dec_case s n k hn hlt (by rw [HAT.out]; have := HZ.out; omega)
        rw [hRV] at HDK
        rcases hcase with ⟨rfl, rfl, w1, o1⟩ | ⟨v2, v4, w1, o1⟩
        · have HD : Hid (Calls Tryz.prog 31 #[.string (s.extract k n)] wr fun e w' => e = .returned (.tuple #[.int .i32 65533, .int .i64 1]) ∧ Below wr.heap.size wr w') := Lib.hid HDK
          have HW1 := Lib.hid w1
          have HO2 := Lib.hid o1
          clear w1 o1 HDK hRV
          by_cases cu : a < k
          · as_aux_lemma =>
              have cu2 : (a : Int) < (k : Int) := by omega
              go_wp2_with (go_at_call 31; refine HD.out.mono ?_; rintro e wd ⟨rfl, hbd⟩; have HBD := Lib.hid hbd; have hwd := (HR.out.later hbd hB hne).cell; clear hbd)
              go_wp2_with fail
              go_still_tail 10, (by kernel_rfl)
              go_wp2_with fail
              refine (HFL.out a k wr hk HR.out _ ?_).mono ?_
              · exact HBD.out.trans ((below_drewN _ _ _).mono HBD.out.size)
              rintro e w2 ⟨⟨nn, rfl⟩, hf⟩
              obtain ⟨out, hE, hU⟩ := hf
              have hw2 := hE.cell
              have HE := Lib.hid hE
              have HU := Lib.hid hU
              have HEL := Lib.hid (HLEN.out k out hk hU)
              clear hE hU
              go_wp2_with (go_at_call 257; refine (encAt_str HE.out ⟨#[92, 117, 102, 102, 102, 100]⟩ [92, 117, 102, 102, 102, 100] rfl (by have := HEL.out; simp only [List.length_cons, List.length_nil]; omega) hB hne).mono ?_; rintro e w3 ⟨rfl, h3⟩)
              have hnew : Hid (QSt B b eb l0 s.data.toList (k + 1) (k + 1) W w3) := Lib.hid (FSt.put HU.out HKL.out 1 HW1.out HO2.out h3)
              go_wp2
              go_roundw
              case rel => exact ⟨k + 1, k + 1, Nat.le_refl _, by have := Quo.stepW_le s.data.toList k HKL.out; have := HL.out; have := HW1.out; omega, by go_num, by go_num, hnew⟩
              case measure => simp [RowKit.intOf]; omega
          · as_aux_lemma =>
              have cu2 : ¬ ((a : Int) < (k : Int)) := by omega
              go_wp2_with (go_at_call 31; refine HD.out.mono ?_; rintro e wd ⟨rfl, hbd⟩; have HBD := Lib.hid hbd; have hwd := (HR.out.later hbd hB hne).cell; clear hbd)
              obtain ⟨out, hE, hU⟩ := HR.out.flat cu
              replace hE := hE.later HBD.out hB hne
              have hw2 := hE.cell
              have HE := Lib.hid hE
              have HU := Lib.hid hU
              have HEL := Lib.hid (HLEN.out k out hk hU)
              clear hE hU
              go_wp2_with (go_at_call 257; refine (encAt_str HE.out ⟨#[92, 117, 102, 102, 102, 100]⟩ [92, 117, 102, 102, 102, 100] rfl (by have := HEL.out; simp only [List.length_cons, List.length_nil]; omega) hB hne).mono ?_; rintro e w3 ⟨rfl, h3⟩)
              have hnew : Hid (QSt B b eb l0 s.data.toList (k + 1) (k + 1) W w3) := Lib.hid (FSt.put HU.out HKL.out 1 HW1.out HO2.out h3)
              go_wp2
              go_roundw
              case rel => exact ⟨k + 1, k + 1, Nat.le_refl _, by have := Quo.stepW_le s.data.toList k HKL.out; have := HL.out; have := HW1.out; omega, by go_num, by go_num, hnew⟩
              case measure => simp [RowKit.intOf]; omega
        · have hnew := HR.out.keep HKL.out V w1 o1
          have HNEW : Hid (∀ wd, Below wr.heap.size wr wd → QSt B b eb l0 s.data.toList a (k + V) W wd) := Lib.hid fun wd hb => hnew.later hb hB hne
          have hle := Quo.stepW_le s.data.toList k HKL.out
          rw [w1, HL.out] at hle
          obtain ⟨r, hr⟩ : ∃ r : Int, (R : Int) = r := ⟨_, rfl⟩
          obtain ⟨x, hx⟩ : ∃ x : Int, (V : Int) = x := ⟨_, rfl⟩
          rw [hr, hx] at HDK
          have HD : Hid (Calls Tryz.prog 31 #[.string (s.extract k n)] wr fun e w' => e = .returned (.tuple #[.int .i32 r, .int .i64 x]) ∧ Below wr.heap.size wr w') := Lib.hid HDK
          have HX := Lib.hid hx
          have x1 : (x == 1) = false := by simp; omega
          have x2 : 2 ≤ x ∧ x ≤ 4 := by omega
          have kx : (k : Int) + x ≤ 1048576 := by omega
          clear HDK hRV hnew hr hx w1 o1
          cases hrr : (r == 65533)
          all_goals (
            go_wp2_with (go_at_call 31; refine HD.out.mono ?_; rintro e wd ⟨rfl, hbd⟩; have HBD := Lib.hid hbd; have hwd := (HR.out.later hbd hB hne).cell; clear hbd)
            have hnew := Lib.hid (HNEW.out _ HBD.out)
            go_roundw
            case rel => exact ⟨a, k + V, by omega, hle, rfl, by have := HX.out; go_num, hnew⟩
            case measure => (have := HX.out; simp [RowKit.intOf]; omega))
    · obtain rfl : k = n := by omega
      have hse : ∀ w, (Instr.slice 9 (.string s) (some (.int .i64 a)) none none).run Tryz.prog w = .ok (.string (s.extract a k)) w := fun w => by
        rw [run_slice_string_l w 9 s Tryz.underlying9 .i64 a (by omega) (by omega)]; simp [hn]
      have HBY : Hid (∀ out w, EncAt B b eb (l0 ++ 34 :: out) W w → Quo.Upto s.data.toList k out → Calls Tryz.prog 256 #[.pointer (some ⟨b, 0, none⟩), .int .u8 34] w fun e w' => e = .returned .nilIface ∧ EncAt B b eb (l0 ++ Quo.quote s.data.toList) W w') := Lib.hid fun out w hE hU => by
        have := HLEN.out k out hk hU
        refine (encAt_byte hE 34 34 rfl (by omega) hB hne).mono fun e w' ⟨h1, h2⟩ => ⟨h1, ?_⟩
        have hd := hU.done (by rw [HL.out]; exact Nat.le_refl _)
        unfold Quo.quote
        rw [← hd]
        simpa using h2
      by_cases cu : a < k
      · as_aux_lemma =>
          have cu2 : (a : Int) < (k : Int) := by omega
          go_wp2_with fail
          go_still_tail 9, (by kernel_rfl)
          go_wp2_with fail
          refine (HFL.out a k wr hk HR.out _ ?_).mono ?_
          · (first | exact Below.refl _ _ | exact below_drewN _ _ _ | exact (Below.refl _ _).drew)
          rintro e w2 ⟨⟨nn, rfl⟩, hf⟩
          obtain ⟨out, hE, hU⟩ := hf
          have hw2 := hE.cell
          have HE := Lib.hid hE
          have HU := Lib.hid hU
          have HEL := Lib.hid (HLEN.out k out hk hU)
          clear hE hU
          go_wp2_with (go_at_call 256; refine (HBY.out _ _ HE.out HU.out).mono ?_; rintro e w3 ⟨rfl, h3⟩)
          go_returns
          exact ⟨rfl, h3⟩
      · as_aux_lemma =>
          have cu2 : ¬ ((a : Int) < (k : Int)) := by omega
          obtain ⟨out, hE, hU⟩ := HR.out.flat cu
          have hw2 := hE.cell
          have HE := Lib.hid hE
          have HU := Lib.hid hU
          have HEL := Lib.hid (HLEN.out k out hk hU)
          clear hE hU
          go_wp2_with (go_at_call 256; refine (HBY.out _ _ HE.out HU.out).mono ?_; rintro e w3 ⟨rfl, h3⟩)
          go_returns
          exact ⟨rfl, h3⟩
end Go.Proofs.YtngdcnljbfkneaaGreatFmt
