/- Contracts: encode at a string; encodeArray over strings. -/
import Derived.Test.YtcneanhebfdceaaGreatFmtEncQ
import Derived.Test.YtcneanhebfdceaaGreatFmtStrC
namespace Go.Proofs.YtcneanhebfdceaaGreatFmt
open Go.RowKit Go.Deep Go.Lib Go.Sort

set_option maxHeartbeats 2000000 in
set_option maxRecDepth 100000 in
theorem encAt_qstr {B b eb : Nat} {l : List UInt8} {W w : World} (h : EncAt B b eb l W w) (s : ByteArray) (hs : s.size ≤ 1048576) (hlen : l.length ≤ 1000000000000) (hB : B ≤ W.heap.size) (hne : eb ≠ b) (hdr : DrBelow B W) :
    Calls Tryz.prog 27 #[.pointer (some ⟨eb, 0, none⟩), .iface 9 (.string s)] w fun e w' => e = .returned (.tuple #[]) ∧ EncAt B b eb (l ++ qt s) W w' := by
  have HS := Lib.hid (encString_any B b eb l s s.size rfl hs hlen W w hB hne h hdr)
  clear h hdr
  go_enter Tryz.func27, Tryz.ntmps27
  go_wp2_with (go_at_call 26; refine HS.out.mono ?_; rintro e w2 ⟨rfl, h2⟩)
  go_returns
  exact ⟨rfl, h2⟩

set_option maxHeartbeats 8000000 in
set_option maxRecDepth 100000 in
theorem encodeArray_str (zs : List ByteArray) (n : Nat) (hn : zs.length = n) (hz : ∀ k, (zs.getD k ByteArray.empty).size ≤ 1048576) (hnb : n ≤ 65536) (v : Value) (B b eb : Nat) (W : World) (hB : B ≤ W.heap.size) (_hBe : B ≤ eb) (hne : eb ≠ b)
    (hdr : DrBelow B W) (h : EncAt B b eb [] W W)
    (hv : ∃ a cap, v = .slice a n cap ∧ (0 < n → ∃ vb off, a = some ⟨vb, off, none⟩ ∧ vb < B ∧ ∀ i, i < n → W.cell? ⟨vb, off + i, none⟩ = some (.iface 9 (.string (zs.getD i ByteArray.empty)))))
    (hgl : ∀ k, k ≤ n → (Esc.glue (zs.map qt) [44] k).length ≤ 6291459 * k) :
    Calls Tryz.prog 23 #[.pointer (some ⟨eb, 0, none⟩), v] W
      fun e w' => e = .returned (.tuple #[]) ∧ EncAt B b eb (91 :: (Esc.glue (zs.map qt) [44] n ++ [93])) W w' := by
  obtain ⟨a, cap, rfl, hcc⟩ := hv
  have HC := Lib.hid hcc
  have HZ := Lib.hid hz
  have HT := Lib.hid hdr
  have HG := Lib.hid hgl
  have H0 := Lib.hid (encAt_byte h 91 91 rfl (by decide) hB hne)
  have hw0 := h.2.1.writer
  clear hcc hz hdr hgl h
  go_enter Tryz.func23, Tryz.ntmps23
  go_wp2_with (go_at_call 259; refine H0.out.mono ?_; rintro e w1 ⟨rfl, h1⟩)
  have HS := Lib.hid h1
  clear h1 hw0
  go_loopw [13] (fun i wr => ∃ k : Nat, k ≤ n ∧ i = .int .i64 k ∧ Hid (EncAt B b eb (91 :: Esc.glue (zs.map qt) [44] k) W wr)) (fun i _ => n - (RowKit.intOf i).toNat)
  case atStart => exact ⟨0, Nat.zero_le _, rfl, HS⟩
  case round =>
    obtain ⟨k, hk, rfl, HR⟩ := hrel
    have hw1 := HR.out.2.1.writer
    have hgk := HG.out k hk
    by_cases hlt : k < n
    · obtain ⟨vb, off, rfl, hvb, hcell⟩ := HC.out (by omega)
      have hcx : wr.cell? ⟨vb, off + k, none⟩ = some (.iface 9 (.string (zs.getD k ByteArray.empty))) := (HR.out.2.2.cell (p := ⟨vb, off + k, none⟩) hvb).trans (hcell k hlt)
      have hgs : Esc.glue (zs.map qt) [44] (k + 1) = Esc.glue (zs.map qt) [44] k ++ ((if k = 0 then [] else [44]) ++ qt (zs.getD k ByteArray.empty)) := by
        show _ ++ ((if k = 0 then [] else [44]) ++ (zs.map qt).getD k []) = _
        rw [show (zs.map qt).getD k [] = qt (zs.getD k ByteArray.empty) from by
          rw [List.getD_eq_getElem?_getD, List.getD_eq_getElem?_getD, List.getElem?_map, List.getElem?_eq_getElem (by omega)]; rfl]
      have hin := HZ.out k
      obtain ⟨z, hzk⟩ : ∃ z, zs.getD k ByteArray.empty = z := ⟨_, rfl⟩
      rw [hzk] at hcx hgs hin
      obtain ⟨X, hX⟩ : ∃ X, 91 :: Esc.glue (zs.map qt) [44] k = X := ⟨_, rfl⟩
      have hXl : X.length ≤ 6291459 * n + 1 := by rw [← hX, List.length_cons]; have : 6291459 * k ≤ 6291459 * n := Nat.mul_le_mul_left _ hk; omega
      rw [hX] at HR
      by_cases k0 : k = 0
      · have hXn : 91 :: Esc.glue (zs.map qt) [44] (k + 1) = X ++ qt z := by rw [hgs, if_pos k0, ← hX]; simp
        have HI := Lib.hid (encAt_qstr HR.out z hin (by omega) hB hne HT.out)
        have HXN := Lib.hid hXn
        have hk0 : ¬ ((0 : Int) < (k : Int)) := by omega
        clear hcell hzk hX hgs hin hXn k0 hgk
        go_wp2_with (go_at_call 27; refine HI.out.mono ?_; rintro e w2 ⟨rfl, h2⟩)
        replace h2 := Lib.hid (show EncAt B b eb (91 :: Esc.glue (zs.map qt) [44] (k + 1)) W w2 from by rw [HXN.out]; exact h2)
        go_roundw
        case rel => exact ⟨k + 1, by omega, by go_num, h2⟩
        case measure => simp [RowKit.intOf]; omega
      · have hXn : 91 :: Esc.glue (zs.map qt) [44] (k + 1) = X ++ [44] ++ qt z := by rw [hgs, if_neg k0, ← hX]; simp
        have HC44 := Lib.hid (encAt_byte HR.out 44 44 rfl (by omega) hB hne)
        have HI := Lib.hid (fun w (hw : EncAt B b eb (X ++ [44]) W w) => encAt_qstr hw z hin (by rw [List.length_append, List.length_singleton]; omega) hB hne HT.out)
        have HXN := Lib.hid hXn
        have hk0 : (0 : Int) < (k : Int) := by omega
        clear hcell hzk hX hgs hin hXn k0 hgk
        go_wp2_with (first
          | (go_at_call 259; refine HC44.out.mono ?_; rintro e w2 ⟨rfl, h2⟩)
          | (go_at_call 27; refine (HI.out _ h2).mono ?_; rintro e w3 ⟨rfl, h3⟩))
        replace h3 := Lib.hid (show EncAt B b eb (91 :: Esc.glue (zs.map qt) [44] (k + 1)) W w3 from by rw [HXN.out]; exact h3)
        go_roundw
        case rel => exact ⟨k + 1, by omega, by go_num, h3⟩
        case measure => simp [RowKit.intOf]; omega
    · obtain rfl : k = n := by omega
      have HE := Lib.hid (encAt_byte HR.out 93 93 rfl (by rw [List.length_cons]; omega) hB hne)
      go_wp2_with (go_at_call 259; refine HE.out.mono ?_; rintro e w2 ⟨rfl, h2⟩)
      go_returns
      exact ⟨rfl, h2⟩
end Go.Proofs.YtcneanhebfdceaaGreatFmt
