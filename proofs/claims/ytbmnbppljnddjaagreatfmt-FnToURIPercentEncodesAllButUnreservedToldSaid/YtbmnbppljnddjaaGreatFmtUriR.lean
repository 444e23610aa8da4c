/- Contracts: zzIndex of "+", zzReplaceAll of "+" by "%20". -/
import Derived.Test.YtbmnbppljnddjaaGreatFmtUriP
import Derived.Test.YtbmnbppljnddjaaGreatFmtFacts
import Derived.Test.YtbmnbppljnddjaaGreatFmtOwn
import Derived.Test.YtbmnbppljnddjaaGreatFmtStr
import Derived.Handy
import Derived.WalkSpells
import Derived.WalkSmall
import Derived.Deep.LoopGhost
import Derived.Lib.Hide
namespace Go.Proofs.YtbmnbppljnddjaaGreatFmt
open Go.RowKit Go.Deep

theorem pl_id : ∀ l : List UInt8, (∀ b ∈ l, b ≠ 43) → l.flatMap Uri.plF = l
  | [], _ => rfl
  | b :: l, h => by
    rw [List.flatMap_cons, pl_id l (fun x hx => h x (List.mem_cons_of_mem _ hx))]
    unfold Uri.plF
    rw [if_neg (h b (List.mem_cons_self ..))]
    rfl
/-- Where the first plus stands. -/
def PlusAt (l : List UInt8) (r : Int) : Prop :=
  (r = -1 ∧ ∀ j, j < l.length → l.getD j 0 ≠ 43) ∨ ∃ i : Nat, i < l.length ∧ r = (i : Int) ∧ l.getD i 0 = 43 ∧ ∀ j, j < i → l.getD j 0 ≠ 43
theorem bytes_ext {a b : ByteArray} (h : a.data.toList = b.data.toList) : a = b := by
  cases a; cases b; simp only [ByteArray.mk.injEq]; exact Array.toList_inj.1 h
theorem extract_list (s : ByteArray) (i j : Nat) : (s.extract i j).data.toList = (s.data.toList.drop i).take (j - i) := by
  simp [ByteArray.data_extract]
theorem extract_one (s : ByteArray) (i : Nat) (h : i < s.size) : s.extract i (i + 1) = ⟨#[s.data.toList.getD i 0]⟩ := by
  apply bytes_ext
  have hi : i < s.data.toList.length := h
  rw [extract_list, List.drop_eq_getElem_cons hi, List.getD_eq_getElem?_getD, List.getElem?_eq_getElem hi]
  simp
set_option maxHeartbeats 2000000 in
set_option maxRecDepth 100000 in
theorem zzIndex_any (s : ByteArray) (n : Nat) (hn : s.size = n) (hsz : n ≤ 3145728) (W : World) :
    Calls Tryz.prog 34 #[.string s, .string ⟨#[43]⟩] W fun e w' => ∃ r : Int, e = .returned (.int .i64 r) ∧ PlusAt s.data.toList r ∧ w' = W := by
  have hl : s.data.toList.length = n := hn
  have HL := Lib.hid hl
  clear hl
  go_enter Tryz.func34, Tryz.ntmps34
  go_wp2
  go_loopw [5] (fun i wr => ∃ k : Nat, k ≤ n ∧ i = .int .i64 k ∧ wr = W ∧ Hid (∀ j, j < k → s.data.toList.getD j 0 ≠ 43)) (fun i _ => n - (RowKit.intOf i).toNat)
  case atStart => exact ⟨0, Nat.zero_le _, rfl, rfl, Lib.hid fun j hj => absurd hj (by omega)⟩
  case round =>
    obtain ⟨k, hk, rfl, rfl, HR⟩ := hrel
    by_cases hlt : k < n
    · have hle : (k : Int) + 1 ≤ (n : Int) := by omega
      have hsl : ∀ w, (Instr.slice 9 (.string s) (some (.int .i64 (k : Int))) (some (.int .i64 ((k : Int) + 1))) none).run Tryz.prog w = .ok (.string ⟨#[s.data.toList.getD k 0]⟩) w := fun w => by
        rw [run_slice_string w 9 s .i64 .i64 (k : Int) ((k : Int) + 1) Tryz.underlying9 (by omega) (by omega) (by omega), ← extract_one s k (by omega)]
        rfl
      obtain ⟨c, hc⟩ : ∃ c, s.data.toList.getD k 0 = c := ⟨_, rfl⟩
      rw [hc] at hsl
      have HC := Lib.hid hc
      clear hc
      by_cases c43 : c = 43
      · subst c43
        go_wp2
        go_ret
        exact ⟨_, rfl, .inr ⟨k, by rw [HL.out]; exact hlt, rfl, HC.out, HR.out⟩, rfl⟩
      · have hne2 : (c == 43) = false := by simpa using c43
        have HR2 : Hid (∀ j, j < k + 1 → s.data.toList.getD j 0 ≠ 43) := Lib.hid fun j hj => by
          rcases Nat.lt_succ_iff_lt_or_eq.1 hj with h | rfl
          · exact HR.out j h
          · rw [HC.out]; exact c43
        clear c43
        go_wp2
        go_roundw
        case rel => exact ⟨k + 1, by omega, by go_num, trivial, HR2⟩
        case measure => simp [RowKit.intOf]; omega
    · obtain rfl : k = n := by omega
      have hnle : ¬ ((k : Int) + 1 ≤ (k : Int)) := by omega
      go_wp2
      go_ret
      exact ⟨_, rfl, .inl ⟨rfl, fun j hj => HR.out j (by rw [← HL.out]; exact hj)⟩, rfl⟩

theorem plus_cut (l : List UInt8) (i : Nat) (h : i < l.length) (h1 : l.getD i 0 = 43) (h2 : ∀ j, j < i → l.getD j 0 ≠ 43) : (l.take i).flatMap Uri.plF = l.take i ∧ l = l.take i ++ 43 :: l.drop (i + 1) := by
  constructor
  · refine pl_id _ fun b hb => ?_
    obtain ⟨j, hj, rfl⟩ := List.mem_iff_getElem.1 hb
    have hji : j < i := by rw [List.length_take] at hj; omega
    have := h2 j hji
    rw [List.getD_eq_getElem?_getD, List.getElem?_eq_getElem (by omega)] at this
    simpa using this
  · have e : l[i] = 43 := by
      rw [List.getD_eq_getElem?_getD, List.getElem?_eq_getElem h] at h1
      simpa using h1
    rw [← e, ← List.drop_eq_getElem_cons h, List.take_append_drop]
theorem plus_none (l : List UInt8) (h2 : ∀ j, j < l.length → l.getD j 0 ≠ 43) : l.flatMap Uri.plF = l :=
  pl_id _ fun b hb => by
    obtain ⟨j, hj, rfl⟩ := List.mem_iff_getElem.1 hb
    have := h2 j hj
    rw [List.getD_eq_getElem?_getD, List.getElem?_eq_getElem hj] at this
    simpa using this
theorem first_plus (l : List UInt8) (h : ¬ ∀ j, j < l.length → l.getD j 0 ≠ 43) : ∃ i, i < l.length ∧ l.getD i 0 = 43 ∧ ∀ j, j < i → l.getD j 0 ≠ 43 := by
  refine Classical.byContradiction fun hn => h ?_
  intro j
  induction j using Nat.strongRecOn with
  | ind j ih => exact fun hj hc => hn ⟨j, hj, hc, fun k hk => ih k hk (by omega)⟩
theorem info_u8v : (Tryz.prog.info? 5).map (fun i => (i.zero, i.size, i.bytes)) = some (some (.int .u8 0), 1, 1) := by kernel_rfl
set_option maxHeartbeats 4000000 in
set_option maxRecDepth 100000 in
theorem zzReplace_any (s : ByteArray) (n : Nat) (hn : s.size = n) (hsz : n ≤ 3145728) (W : World) :
    Calls Tryz.prog 29 #[.string s, .string ⟨#[43]⟩, .string ⟨#[37, 50, 48]⟩] W fun e w' => e = .returned (.string ⟨(s.data.toList.flatMap Uri.plF).toArray⟩) ∧ Below W.heap.size W w' := by
  have HN := Lib.hid hn
  clear hn
  go_enter Tryz.func29, Tryz.ntmps29
  go_wp2
  go_loopw [0, 7] (fun u v wr => ∃ (t : ByteArray) (pre : List UInt8), u = .string t ∧ t.size ≤ n ∧ Hid (s.data.toList = pre ++ t.data.toList) ∧ Hid (Own.Buf 5 W.heap.size W wr v (pre.flatMap Uri.plF))) (fun u _ _ => match u with | .string t => t.size | _ => 0)
  case atStart => exact ⟨s, [], rfl, by rw [HN.out]; exact Nat.le_refl _, Lib.hid rfl, Lib.hid (Own.Buf.nil (Below.refl _ _) (Nat.le_refl _))⟩
  case round =>
    obtain ⟨t, pre, rfl, ht, HP, HB⟩ := hrel
    obtain ⟨m, hm⟩ : ∃ m, t.size = m := ⟨_, rfl⟩
    rw [hm] at ht
    have hpl : (pre.flatMap Uri.plF).length ≤ 3 * pre.length := Own.flat_len Uri.plF 3 Uri.plF_len pre
    have hpre : pre.length + m = n := by
      have := congrArg List.length HP.out
      rw [List.length_append, show s.data.toList.length = n from HN.out, show t.data.toList.length = m from hm] at this
      exact this.symm
    have HPL := Lib.hid hpl
    have HPRE := Lib.hid hpre
    clear hpl hpre
    by_cases hno : ∀ j, j < t.data.toList.length → t.data.toList.getD j 0 ≠ 43
    · have HI : Hid (Calls Tryz.prog 34 #[.string t, .string ⟨#[43]⟩] wr fun e w' => e = .returned (.int .i64 (-1)) ∧ w' = wr) := Lib.hid ((zzIndex_any t m hm (by omega) wr).mono fun e w' ⟨r, h1, h2, h3⟩ => by
        rcases h2 with ⟨rfl, _⟩ | ⟨i, hi, rfl, hc, _⟩
        · exact ⟨h1, h3⟩
        · exact absurd hc (hno i hi))
      have HE := Lib.hid (plus_none _ hno)
      clear hno
      go_wp2_with (first
        | (go_at_call 34; refine HI.out.mono ?_; rintro e w2 ⟨rfl, rfl⟩)
        | (at_builtin; refine Own.wpList_buf_str rfl _ _ 26 9 rfl 5 Tryz.underlying26 Tryz.underlying9 info_u8v W.heap.size W _ _ rfl HB.out t t.data.toList rfl rfl (by have h1 := HPL.out; have h2 := HPRE.out; have h3 : t.data.toList.length = m := hm; omega) ?_))
      intro v' w' hb'
      have hcv := Own.own_text (P := Tryz.prog) 26 9 5 Tryz.underlying26 Tryz.underlying5 Tryz.underlying9 hb'.row
      have he : pre.flatMap Uri.plF ++ t.data.toList = s.data.toList.flatMap Uri.plF := by rw [HP.out, List.flatMap_append, HE.out]
      rw [he] at hcv
      go_wp2
      go_ret
      exact ⟨rfl, hb'.below⟩
    · obtain ⟨i, hi, hc, hlo⟩ := first_plus _ hno
      have him : i < m := by rw [← hm]; exact hi
      have HI : Hid (Calls Tryz.prog 34 #[.string t, .string ⟨#[43]⟩] wr fun e w' => e = .returned (.int .i64 (i : Int)) ∧ w' = wr) := Lib.hid ((zzIndex_any t m hm (by omega) wr).mono fun e w' ⟨r, h1, h2, h3⟩ => by
        rcases h2 with ⟨_, hall⟩ | ⟨i', hi', rfl, hc', hlo'⟩
        · exact absurd hall hno
        · rcases Nat.lt_trichotomy i i' with h | rfl | h
          · exact absurd hc (hlo' i h)
          · exact ⟨h1, h3⟩
          · exact absurd hc' (hlo i' h))
      have hcut := plus_cut _ i hi hc hlo
      have hnn : ¬ ((i : Int) < 0) := by omega
      have hs1 : ∀ w, (Instr.slice 9 (.string t) none (some (.int .i64 (i : Int))) none).run Tryz.prog w = .ok (.string (t.extract 0 i)) w := fun w => by
        rw [run_slice_string_h w 9 t Tryz.underlying9 .i64 (i : Int) (by omega) (by omega)]
        rfl
      have hs2 : ∀ w, (Instr.slice 9 (.string t) (some (.int .i64 ((i : Int) + 1))) none none).run Tryz.prog w = .ok (.string (t.extract (i + 1) m)) w := fun w => by
        rw [run_slice_string_l w 9 t Tryz.underlying9 .i64 ((i : Int) + 1) (by omega) (by omega), hm]
        rfl
      have hx1 : (t.extract 0 i).data.toList = t.data.toList.take i := by rw [extract_list]; simp
      have hy1 : (t.extract (i + 1) m).data.toList = t.data.toList.drop (i + 1) := by
        rw [extract_list, List.take_of_length_le]
        rw [List.length_drop, show t.data.toList.length = m from hm]
        omega
      have hys : (t.extract (i + 1) m).size = m - (i + 1) := by rw [ByteArray.size_extract, hm]; omega
      obtain ⟨x, hx⟩ : ∃ x, t.extract 0 i = x := ⟨_, rfl⟩
      obtain ⟨y, hy⟩ : ∃ y, t.extract (i + 1) m = y := ⟨_, rfl⟩
      rw [hx] at hs1 hx1
      rw [hy] at hs2 hy1 hys
      have HX1 := Lib.hid hx1
      have HY1 := Lib.hid hy1
      have HYS := Lib.hid hys
      have HCUT := Lib.hid hcut
      have HXL : Hid (x.data.toList.length = i) := Lib.hid (by rw [hx1, List.length_take, show t.data.toList.length = m from hm]; omega)
      clear hx hy hx1 hy1 hys hcut hc hlo hi hno
      go_wp2_with (first
        | (go_at_call 34; refine HI.out.mono ?_; rintro e w2 ⟨rfl, rfl⟩)
        | (at_builtin; refine Own.wpList_buf_str rfl _ _ 26 9 rfl 5 Tryz.underlying26 Tryz.underlying9 info_u8v W.heap.size W _ _ rfl HB.out x x.data.toList rfl rfl (by have h1 := HPL.out; have h2 := HPRE.out; have h3 := HXL.out; omega) ?_))
      intro v1 w1 hb1
      have HB1 := Lib.hid hb1
      clear hb1
      go_wp2_with (at_builtin; refine Own.wpList_buf_str rfl _ _ 26 9 rfl 5 Tryz.underlying26 Tryz.underlying9 info_u8v W.heap.size W _ _ rfl HB1.out _ [37, 50, 48] rfl rfl (by have h1 := HPL.out; have h2 := HPRE.out; have h3 := HXL.out; simp only [List.length_append, List.length_cons, List.length_nil]; omega) ?_)
      intro v2 w2 hb2
      have HB2 := Lib.hid hb2
      clear hb2
      go_wp2
      go_roundw
      case rel => exact ⟨y, pre ++ (t.data.toList.take i ++ [43]), rfl, by rw [HYS.out]; omega, Lib.hid (by rw [HP.out, HY1.out, List.append_assoc, List.append_assoc]; congr 1; exact HCUT.out.2), Lib.hid (by rw [List.flatMap_append, List.flatMap_append, HCUT.out.1, ← HX1.out, show [(43 : UInt8)].flatMap Uri.plF = [37, 50, 48] from rfl]; simpa only [List.append_assoc] using HB2.out)⟩
      case measure => simp [HYS.out, hm]; omega
end Go.Proofs.YtbmnbppljnddjaaGreatFmt
