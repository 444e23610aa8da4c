/-
  DERIVED. GIVEN WITH THE SEED: THE PROGRAM's TIES (one call each: nine closed facts by the kernel) AND EACH ROW's TIE, after the 31st guide's Derived/Test/Toyas{Tie, Card}.lean. No idea stands in it: it is a product of the set-up. Laid BY PROGRAM, IN A SANDBOX (cutbox-door.mjs). By AI agents, Wed Nov 11 2026. No macro, syntax, notation, axiom, sorry.
-/
import Derived.Test.YtcidgldfccjkbaaGreatDoorRows
import Derived.LaidByTextLater
import Derived.SevenTiedAt
import Derived.LaidSub
import Derived.LaidOnce
namespace Go.Proofs.YtcidgldfccjkbaaGreatDoor
open Go
set_option maxRecDepth 100000
theorem seatTie1 : Tryz.prog.laidByTextLater [("math/bits.deBruijn32tab", Rows.laid_math_bits_deBruijn32tab), ("math/bits.deBruijn64tab", Rows.laid_math_bits_deBruijn64tab), ("internal/strconv.float32info", Rows.laid_internal_strconv_float32info), ("internal/strconv.float64info", Rows.laid_internal_strconv_float64info), ("internal/strconv.optimize", Rows.laid_internal_strconv_optimize), ("internal/strconv.powtab", Rows.laid_internal_strconv_powtab), ("internal/strconv.float64pow10", Rows.laid_internal_strconv_float64pow10), ("internal/strconv.float32pow10", Rows.laid_internal_strconv_float32pow10), ("internal/strconv.uint64pow10", Rows.laid_internal_strconv_uint64pow10), ("strconv.ErrRange", Rows.laid_strconv_ErrRange), ("strconv.ErrSyntax", Rows.laid_strconv_ErrSyntax), ("github.com/itchyny/gojq/pub/bigall.leafSize", Rows.laid_github_com_itchyny_gojq_pub_bigall_leafSize), ("github.com/itchyny/gojq/pub/bigall.divRecursiveThreshold", Rows.laid_github_com_itchyny_gojq_pub_bigall_divRecursiveThreshold), ("github.com/itchyny/gojq/pub/bigall.karatsubaThreshold", Rows.laid_github_com_itchyny_gojq_pub_bigall_karatsubaThreshold), ("github.com/itchyny/gojq/pub/bigall.basicSqrThreshold", Rows.laid_github_com_itchyny_gojq_pub_bigall_basicSqrThreshold), ("github.com/itchyny/gojq/pub/bigall.karatsubaSqrThreshold", Rows.laid_github_com_itchyny_gojq_pub_bigall_karatsubaSqrThreshold)] [.data, .data, .widerDeep, .widerDeep, .data, .data, .data, .data, .data, .sentinel, .sentinel, .data, .data, .data, .data, .data] true :=
  Program.laidByTextLater_by_one 111 8 65 (by kernel_rfl) (by kernel_rfl) (by kernel_rfl) (by kernel_rfl) (by kernel_rfl) (by kernel_rfl) (fun _ _ => by kernel_rfl)
theorem pin_laid_internal_strconv_leftcheats : Tryz.pinned.checked.prog.pinnedFits "internal/strconv.leftcheats" = true := by kernel_rfl
theorem pin_laid_internal_strconv_pow10Tab : Tryz.pinned.checked.prog.pinnedFits "internal/strconv.pow10Tab" = true := by kernel_rfl
theorem noOwnUnsafe : Tryz.pinned.checked.prog.headLifts.contains "ownunsafe" = false := by kernel_rfl
theorem fits1 : Tryz.pinned.checked.prog.listedFits [("math/bits.deBruijn32tab", Rows.laid_math_bits_deBruijn32tab), ("math/bits.deBruijn64tab", Rows.laid_math_bits_deBruijn64tab), ("internal/strconv.float32info", Rows.laid_internal_strconv_float32info), ("internal/strconv.float64info", Rows.laid_internal_strconv_float64info), ("internal/strconv.optimize", Rows.laid_internal_strconv_optimize), ("internal/strconv.powtab", Rows.laid_internal_strconv_powtab), ("internal/strconv.float64pow10", Rows.laid_internal_strconv_float64pow10), ("internal/strconv.float32pow10", Rows.laid_internal_strconv_float32pow10), ("internal/strconv.uint64pow10", Rows.laid_internal_strconv_uint64pow10), ("strconv.ErrRange", Rows.laid_strconv_ErrRange), ("strconv.ErrSyntax", Rows.laid_strconv_ErrSyntax), ("github.com/itchyny/gojq/pub/bigall.leafSize", Rows.laid_github_com_itchyny_gojq_pub_bigall_leafSize), ("github.com/itchyny/gojq/pub/bigall.divRecursiveThreshold", Rows.laid_github_com_itchyny_gojq_pub_bigall_divRecursiveThreshold), ("github.com/itchyny/gojq/pub/bigall.karatsubaThreshold", Rows.laid_github_com_itchyny_gojq_pub_bigall_karatsubaThreshold), ("github.com/itchyny/gojq/pub/bigall.basicSqrThreshold", Rows.laid_github_com_itchyny_gojq_pub_bigall_basicSqrThreshold), ("github.com/itchyny/gojq/pub/bigall.karatsubaSqrThreshold", Rows.laid_github_com_itchyny_gojq_pub_bigall_karatsubaSqrThreshold), ("internal/strconv.leftcheats", Rows.laid_internal_strconv_leftcheats), ("internal/strconv.pow10Tab", Rows.laid_internal_strconv_pow10Tab)] = true := by
  unfold Program.listedFits
  rw [noOwnUnsafe]
  kernel_rfl
theorem tie : Tryz.prog.laidByTextLater [("math/bits.deBruijn32tab", Rows.laid_math_bits_deBruijn32tab), ("math/bits.deBruijn64tab", Rows.laid_math_bits_deBruijn64tab), ("internal/strconv.float32info", Rows.laid_internal_strconv_float32info), ("internal/strconv.float64info", Rows.laid_internal_strconv_float64info), ("internal/strconv.optimize", Rows.laid_internal_strconv_optimize), ("internal/strconv.powtab", Rows.laid_internal_strconv_powtab), ("internal/strconv.float64pow10", Rows.laid_internal_strconv_float64pow10), ("internal/strconv.float32pow10", Rows.laid_internal_strconv_float32pow10), ("internal/strconv.uint64pow10", Rows.laid_internal_strconv_uint64pow10), ("strconv.ErrRange", Rows.laid_strconv_ErrRange), ("strconv.ErrSyntax", Rows.laid_strconv_ErrSyntax), ("github.com/itchyny/gojq/pub/bigall.leafSize", Rows.laid_github_com_itchyny_gojq_pub_bigall_leafSize), ("github.com/itchyny/gojq/pub/bigall.divRecursiveThreshold", Rows.laid_github_com_itchyny_gojq_pub_bigall_divRecursiveThreshold), ("github.com/itchyny/gojq/pub/bigall.karatsubaThreshold", Rows.laid_github_com_itchyny_gojq_pub_bigall_karatsubaThreshold), ("github.com/itchyny/gojq/pub/bigall.basicSqrThreshold", Rows.laid_github_com_itchyny_gojq_pub_bigall_basicSqrThreshold), ("github.com/itchyny/gojq/pub/bigall.karatsubaSqrThreshold", Rows.laid_github_com_itchyny_gojq_pub_bigall_karatsubaSqrThreshold)] [.data, .data, .widerDeep, .widerDeep, .data, .data, .data, .data, .data, .sentinel, .sentinel, .data, .data, .data, .data, .data] true :=
  Program.laidByTextLater.sub seatTie1 ["math/bits.deBruijn32tab", "math/bits.deBruijn64tab", "internal/strconv.float32info", "internal/strconv.float64info", "internal/strconv.optimize", "internal/strconv.powtab", "internal/strconv.float64pow10", "internal/strconv.float32pow10", "internal/strconv.uint64pow10", "strconv.ErrRange", "strconv.ErrSyntax", "github.com/itchyny/gojq/pub/bigall.leafSize", "github.com/itchyny/gojq/pub/bigall.divRecursiveThreshold", "github.com/itchyny/gojq/pub/bigall.karatsubaThreshold", "github.com/itchyny/gojq/pub/bigall.basicSqrThreshold", "github.com/itchyny/gojq/pub/bigall.karatsubaSqrThreshold"] (by kernel_rfl) (by kernel_rfl)
theorem fnIsnormalFloatMatchesMagnitudeModel_row_tie : Rows.fnIsnormalFloatMatchesMagnitudeModelRow.laidByTextAt .later Tryz.pinned [.data, .data, .widerDeep, .widerDeep, .data, .data, .data, .data, .data, .sentinel, .sentinel, .data, .data, .data, .data, .data, .pinned, .pinned] true :=
  OpenClaim.laidByTextAt_pinned rfl rfl tie rfl rfl rfl rfl (fun y hy _e => by
    simp only [Rows.fnIsnormalFloatMatchesMagnitudeModelRow, List.zip_cons_cons, List.zip_nil_right, List.mem_cons, List.mem_nil_iff, or_false] at hy
    rcases hy with rfl | rfl | rfl | rfl | rfl | rfl | rfl | rfl | rfl | rfl | rfl | rfl | rfl | rfl | rfl | rfl | rfl | rfl
    · cases _e
    · cases _e
    · cases _e
    · cases _e
    · cases _e
    · cases _e
    · cases _e
    · cases _e
    · cases _e
    · cases _e
    · cases _e
    · cases _e
    · cases _e
    · cases _e
    · cases _e
    · cases _e
    · exact ⟨pin_laid_internal_strconv_leftcheats, by kernel_rfl⟩
    · exact ⟨pin_laid_internal_strconv_pow10Tab, by kernel_rfl⟩) fits1
theorem fnIsnormalIntIsExactlyNonzero_row_tie : Rows.fnIsnormalIntIsExactlyNonzeroRow.laidByTextAt .later Tryz.pinned [.data, .data, .widerDeep, .widerDeep, .data, .data, .data, .data, .data, .sentinel, .sentinel, .data, .data, .data, .data, .data, .pinned, .pinned] true :=
  OpenClaim.laidByTextAt_pinned rfl rfl tie rfl rfl rfl rfl (fun y hy _e => by
    simp only [Rows.fnIsnormalIntIsExactlyNonzeroRow, List.zip_cons_cons, List.zip_nil_right, List.mem_cons, List.mem_nil_iff, or_false] at hy
    rcases hy with rfl | rfl | rfl | rfl | rfl | rfl | rfl | rfl | rfl | rfl | rfl | rfl | rfl | rfl | rfl | rfl | rfl | rfl
    · cases _e
    · cases _e
    · cases _e
    · cases _e
    · cases _e
    · cases _e
    · cases _e
    · cases _e
    · cases _e
    · cases _e
    · cases _e
    · cases _e
    · cases _e
    · cases _e
    · cases _e
    · cases _e
    · exact ⟨pin_laid_internal_strconv_leftcheats, by kernel_rfl⟩
    · exact ⟨pin_laid_internal_strconv_pow10Tab, by kernel_rfl⟩) fits1
theorem fnIsinfiniteSignAndMagnitude_row_tie : Rows.fnIsinfiniteSignAndMagnitudeRow.laidByTextAt .later Tryz.pinned [.data, .data, .widerDeep, .widerDeep, .data, .data, .data, .data, .data, .sentinel, .sentinel, .data, .data, .data, .data, .data, .pinned, .pinned] true :=
  OpenClaim.laidByTextAt_pinned rfl rfl tie rfl rfl rfl rfl (fun y hy _e => by
    simp only [Rows.fnIsinfiniteSignAndMagnitudeRow, List.zip_cons_cons, List.zip_nil_right, List.mem_cons, List.mem_nil_iff, or_false] at hy
    rcases hy with rfl | rfl | rfl | rfl | rfl | rfl | rfl | rfl | rfl | rfl | rfl | rfl | rfl | rfl | rfl | rfl | rfl | rfl
    · cases _e
    · cases _e
    · cases _e
    · cases _e
    · cases _e
    · cases _e
    · cases _e
    · cases _e
    · cases _e
    · cases _e
    · cases _e
    · cases _e
    · cases _e
    · cases _e
    · cases _e
    · cases _e
    · exact ⟨pin_laid_internal_strconv_leftcheats, by kernel_rfl⟩
    · exact ⟨pin_laid_internal_strconv_pow10Tab, by kernel_rfl⟩) fits1
theorem fnIsnormalRefusesNonNumbers_row_tie : Rows.fnIsnormalRefusesNonNumbersRow.laidByTextAt .later Tryz.pinned [.data, .data, .widerDeep, .widerDeep, .data, .data, .data, .data, .data, .sentinel, .sentinel, .data, .data, .data, .data, .data, .pinned, .pinned] true :=
  OpenClaim.laidByTextAt_pinned rfl rfl tie rfl rfl rfl rfl (fun y hy _e => by
    simp only [Rows.fnIsnormalRefusesNonNumbersRow, List.zip_cons_cons, List.zip_nil_right, List.mem_cons, List.mem_nil_iff, or_false] at hy
    rcases hy with rfl | rfl | rfl | rfl | rfl | rfl | rfl | rfl | rfl | rfl | rfl | rfl | rfl | rfl | rfl | rfl | rfl | rfl
    · cases _e
    · cases _e
    · cases _e
    · cases _e
    · cases _e
    · cases _e
    · cases _e
    · cases _e
    · cases _e
    · cases _e
    · cases _e
    · cases _e
    · cases _e
    · cases _e
    · cases _e
    · cases _e
    · exact ⟨pin_laid_internal_strconv_leftcheats, by kernel_rfl⟩
    · exact ⟨pin_laid_internal_strconv_pow10Tab, by kernel_rfl⟩) fits1
theorem fnIsinfiniteCaseTable_row_tie : Rows.fnIsinfiniteCaseTableRow.laidByTextAt .later Tryz.pinned [.data, .data, .widerDeep, .widerDeep, .data, .data, .data, .data, .data, .sentinel, .sentinel, .data, .data, .data, .data, .data, .pinned, .pinned] true :=
  OpenClaim.laidByTextAt_pinned rfl rfl tie rfl rfl rfl rfl (fun y hy _e => by
    simp only [Rows.fnIsinfiniteCaseTableRow, List.zip_cons_cons, List.zip_nil_right, List.mem_cons, List.mem_nil_iff, or_false] at hy
    rcases hy with rfl | rfl | rfl | rfl | rfl | rfl | rfl | rfl | rfl | rfl | rfl | rfl | rfl | rfl | rfl | rfl | rfl | rfl
    · cases _e
    · cases _e
    · cases _e
    · cases _e
    · cases _e
    · cases _e
    · cases _e
    · cases _e
    · cases _e
    · cases _e
    · cases _e
    · cases _e
    · cases _e
    · cases _e
    · cases _e
    · cases _e
    · exact ⟨pin_laid_internal_strconv_leftcheats, by kernel_rfl⟩
    · exact ⟨pin_laid_internal_strconv_pow10Tab, by kernel_rfl⟩) fits1
theorem fnIsfiniteCaseTable_row_tie : Rows.fnIsfiniteCaseTableRow.laidByTextAt .later Tryz.pinned [.data, .data, .widerDeep, .widerDeep, .data, .data, .data, .data, .data, .sentinel, .sentinel, .data, .data, .data, .data, .data, .pinned, .pinned] true :=
  OpenClaim.laidByTextAt_pinned rfl rfl tie rfl rfl rfl rfl (fun y hy _e => by
    simp only [Rows.fnIsfiniteCaseTableRow, List.zip_cons_cons, List.zip_nil_right, List.mem_cons, List.mem_nil_iff, or_false] at hy
    rcases hy with rfl | rfl | rfl | rfl | rfl | rfl | rfl | rfl | rfl | rfl | rfl | rfl | rfl | rfl | rfl | rfl | rfl | rfl
    · cases _e
    · cases _e
    · cases _e
    · cases _e
    · cases _e
    · cases _e
    · cases _e
    · cases _e
    · cases _e
    · cases _e
    · cases _e
    · cases _e
    · cases _e
    · cases _e
    · cases _e
    · cases _e
    · exact ⟨pin_laid_internal_strconv_leftcheats, by kernel_rfl⟩
    · exact ⟨pin_laid_internal_strconv_pow10Tab, by kernel_rfl⟩) fits1
theorem fnIsnanCaseTable_row_tie : Rows.fnIsnanCaseTableRow.laidByTextAt .later Tryz.pinned [.data, .data, .widerDeep, .widerDeep, .data, .data, .data, .data, .data, .sentinel, .sentinel, .data, .data, .data, .data, .data, .pinned, .pinned] true :=
  OpenClaim.laidByTextAt_pinned rfl rfl tie rfl rfl rfl rfl (fun y hy _e => by
    simp only [Rows.fnIsnanCaseTableRow, List.zip_cons_cons, List.zip_nil_right, List.mem_cons, List.mem_nil_iff, or_false] at hy
    rcases hy with rfl | rfl | rfl | rfl | rfl | rfl | rfl | rfl | rfl | rfl | rfl | rfl | rfl | rfl | rfl | rfl | rfl | rfl
    · cases _e
    · cases _e
    · cases _e
    · cases _e
    · cases _e
    · cases _e
    · cases _e
    · cases _e
    · cases _e
    · cases _e
    · cases _e
    · cases _e
    · cases _e
    · cases _e
    · cases _e
    · cases _e
    · exact ⟨pin_laid_internal_strconv_leftcheats, by kernel_rfl⟩
    · exact ⟨pin_laid_internal_strconv_pow10Tab, by kernel_rfl⟩) fits1
theorem fnIsfiniteIsinfiniteComplement_row_tie : Rows.fnIsfiniteIsinfiniteComplementRow.laidByTextAt .later Tryz.pinned [.data, .data, .widerDeep, .widerDeep, .data, .data, .data, .data, .data, .sentinel, .sentinel, .data, .data, .data, .data, .data, .pinned, .pinned] true :=
  OpenClaim.laidByTextAt_pinned rfl rfl tie rfl rfl rfl rfl (fun y hy _e => by
    simp only [Rows.fnIsfiniteIsinfiniteComplementRow, List.zip_cons_cons, List.zip_nil_right, List.mem_cons, List.mem_nil_iff, or_false] at hy
    rcases hy with rfl | rfl | rfl | rfl | rfl | rfl | rfl | rfl | rfl | rfl | rfl | rfl | rfl | rfl | rfl | rfl | rfl | rfl
    · cases _e
    · cases _e
    · cases _e
    · cases _e
    · cases _e
    · cases _e
    · cases _e
    · cases _e
    · cases _e
    · cases _e
    · cases _e
    · cases _e
    · cases _e
    · cases _e
    · cases _e
    · cases _e
    · exact ⟨pin_laid_internal_strconv_leftcheats, by kernel_rfl⟩
    · exact ⟨pin_laid_internal_strconv_pow10Tab, by kernel_rfl⟩) fits1
theorem fnFloatClassPartition_row_tie : Rows.fnFloatClassPartitionRow.laidByTextAt .later Tryz.pinned [.data, .data, .widerDeep, .widerDeep, .data, .data, .data, .data, .data, .sentinel, .sentinel, .data, .data, .data, .data, .data, .pinned, .pinned] true :=
  OpenClaim.laidByTextAt_pinned rfl rfl tie rfl rfl rfl rfl (fun y hy _e => by
    simp only [Rows.fnFloatClassPartitionRow, List.zip_cons_cons, List.zip_nil_right, List.mem_cons, List.mem_nil_iff, or_false] at hy
    rcases hy with rfl | rfl | rfl | rfl | rfl | rfl | rfl | rfl | rfl | rfl | rfl | rfl | rfl | rfl | rfl | rfl | rfl | rfl
    · cases _e
    · cases _e
    · cases _e
    · cases _e
    · cases _e
    · cases _e
    · cases _e
    · cases _e
    · cases _e
    · cases _e
    · cases _e
    · cases _e
    · cases _e
    · cases _e
    · cases _e
    · cases _e
    · exact ⟨pin_laid_internal_strconv_leftcheats, by kernel_rfl⟩
    · exact ⟨pin_laid_internal_strconv_pow10Tab, by kernel_rfl⟩) fits1
theorem fnNanPredicatesAgree_row_tie : Rows.fnNanPredicatesAgreeRow.laidByTextAt .later Tryz.pinned [.data, .data, .widerDeep, .widerDeep, .data, .data, .data, .data, .data, .sentinel, .sentinel, .data, .data, .data, .data, .data, .pinned, .pinned] true :=
  OpenClaim.laidByTextAt_pinned rfl rfl tie rfl rfl rfl rfl (fun y hy _e => by
    simp only [Rows.fnNanPredicatesAgreeRow, List.zip_cons_cons, List.zip_nil_right, List.mem_cons, List.mem_nil_iff, or_false] at hy
    rcases hy with rfl | rfl | rfl | rfl | rfl | rfl | rfl | rfl | rfl | rfl | rfl | rfl | rfl | rfl | rfl | rfl | rfl | rfl
    · cases _e
    · cases _e
    · cases _e
    · cases _e
    · cases _e
    · cases _e
    · cases _e
    · cases _e
    · cases _e
    · cases _e
    · cases _e
    · cases _e
    · cases _e
    · cases _e
    · cases _e
    · cases _e
    · exact ⟨pin_laid_internal_strconv_leftcheats, by kernel_rfl⟩
    · exact ⟨pin_laid_internal_strconv_pow10Tab, by kernel_rfl⟩) fits1
theorem fnIsnormalFloatMatchesMagnitudeModelUpto_row_tie : Rows.fnIsnormalFloatMatchesMagnitudeModelUptoRow.laidByTextAt .later Tryz.pinned [.data, .data, .widerDeep, .widerDeep, .data, .data, .data, .data, .data, .sentinel, .sentinel, .data, .data, .data, .data, .data, .pinned, .pinned] true :=
  OpenClaim.laidByTextAt_pinned rfl rfl tie rfl rfl rfl rfl (fun y hy _e => by
    simp only [Rows.fnIsnormalFloatMatchesMagnitudeModelUptoRow, List.zip_cons_cons, List.zip_nil_right, List.mem_cons, List.mem_nil_iff, or_false] at hy
    rcases hy with rfl | rfl | rfl | rfl | rfl | rfl | rfl | rfl | rfl | rfl | rfl | rfl | rfl | rfl | rfl | rfl | rfl | rfl
    · cases _e
    · cases _e
    · cases _e
    · cases _e
    · cases _e
    · cases _e
    · cases _e
    · cases _e
    · cases _e
    · cases _e
    · cases _e
    · cases _e
    · cases _e
    · cases _e
    · cases _e
    · cases _e
    · exact ⟨pin_laid_internal_strconv_leftcheats, by kernel_rfl⟩
    · exact ⟨pin_laid_internal_strconv_pow10Tab, by kernel_rfl⟩) fits1
theorem fnIsnormalIntIsExactlyNonzeroUpto_row_tie : Rows.fnIsnormalIntIsExactlyNonzeroUptoRow.laidByTextAt .later Tryz.pinned [.data, .data, .widerDeep, .widerDeep, .data, .data, .data, .data, .data, .sentinel, .sentinel, .data, .data, .data, .data, .data, .pinned, .pinned] true :=
  OpenClaim.laidByTextAt_pinned rfl rfl tie rfl rfl rfl rfl (fun y hy _e => by
    simp only [Rows.fnIsnormalIntIsExactlyNonzeroUptoRow, List.zip_cons_cons, List.zip_nil_right, List.mem_cons, List.mem_nil_iff, or_false] at hy
    rcases hy with rfl | rfl | rfl | rfl | rfl | rfl | rfl | rfl | rfl | rfl | rfl | rfl | rfl | rfl | rfl | rfl | rfl | rfl
    · cases _e
    · cases _e
    · cases _e
    · cases _e
    · cases _e
    · cases _e
    · cases _e
    · cases _e
    · cases _e
    · cases _e
    · cases _e
    · cases _e
    · cases _e
    · cases _e
    · cases _e
    · cases _e
    · exact ⟨pin_laid_internal_strconv_leftcheats, by kernel_rfl⟩
    · exact ⟨pin_laid_internal_strconv_pow10Tab, by kernel_rfl⟩) fits1
theorem fnIsinfiniteSignAndMagnitudeUpto_row_tie : Rows.fnIsinfiniteSignAndMagnitudeUptoRow.laidByTextAt .later Tryz.pinned [.data, .data, .widerDeep, .widerDeep, .data, .data, .data, .data, .data, .sentinel, .sentinel, .data, .data, .data, .data, .data, .pinned, .pinned] true :=
  OpenClaim.laidByTextAt_pinned rfl rfl tie rfl rfl rfl rfl (fun y hy _e => by
    simp only [Rows.fnIsinfiniteSignAndMagnitudeUptoRow, List.zip_cons_cons, List.zip_nil_right, List.mem_cons, List.mem_nil_iff, or_false] at hy
    rcases hy with rfl | rfl | rfl | rfl | rfl | rfl | rfl | rfl | rfl | rfl | rfl | rfl | rfl | rfl | rfl | rfl | rfl | rfl
    · cases _e
    · cases _e
    · cases _e
    · cases _e
    · cases _e
    · cases _e
    · cases _e
    · cases _e
    · cases _e
    · cases _e
    · cases _e
    · cases _e
    · cases _e
    · cases _e
    · cases _e
    · cases _e
    · exact ⟨pin_laid_internal_strconv_leftcheats, by kernel_rfl⟩
    · exact ⟨pin_laid_internal_strconv_pow10Tab, by kernel_rfl⟩) fits1
theorem fnIsnormalRefusesNonNumbersUpto_row_tie : Rows.fnIsnormalRefusesNonNumbersUptoRow.laidByTextAt .later Tryz.pinned [.data, .data, .widerDeep, .widerDeep, .data, .data, .data, .data, .data, .sentinel, .sentinel, .data, .data, .data, .data, .data, .pinned, .pinned] true :=
  OpenClaim.laidByTextAt_pinned rfl rfl tie rfl rfl rfl rfl (fun y hy _e => by
    simp only [Rows.fnIsnormalRefusesNonNumbersUptoRow, List.zip_cons_cons, List.zip_nil_right, List.mem_cons, List.mem_nil_iff, or_false] at hy
    rcases hy with rfl | rfl | rfl | rfl | rfl | rfl | rfl | rfl | rfl | rfl | rfl | rfl | rfl | rfl | rfl | rfl | rfl | rfl
    · cases _e
    · cases _e
    · cases _e
    · cases _e
    · cases _e
    · cases _e
    · cases _e
    · cases _e
    · cases _e
    · cases _e
    · cases _e
    · cases _e
    · cases _e
    · cases _e
    · cases _e
    · cases _e
    · exact ⟨pin_laid_internal_strconv_leftcheats, by kernel_rfl⟩
    · exact ⟨pin_laid_internal_strconv_pow10Tab, by kernel_rfl⟩) fits1
theorem fnIsinfiniteCaseTableUpto_row_tie : Rows.fnIsinfiniteCaseTableUptoRow.laidByTextAt .later Tryz.pinned [.data, .data, .widerDeep, .widerDeep, .data, .data, .data, .data, .data, .sentinel, .sentinel, .data, .data, .data, .data, .data, .pinned, .pinned] true :=
  OpenClaim.laidByTextAt_pinned rfl rfl tie rfl rfl rfl rfl (fun y hy _e => by
    simp only [Rows.fnIsinfiniteCaseTableUptoRow, List.zip_cons_cons, List.zip_nil_right, List.mem_cons, List.mem_nil_iff, or_false] at hy
    rcases hy with rfl | rfl | rfl | rfl | rfl | rfl | rfl | rfl | rfl | rfl | rfl | rfl | rfl | rfl | rfl | rfl | rfl | rfl
    · cases _e
    · cases _e
    · cases _e
    · cases _e
    · cases _e
    · cases _e
    · cases _e
    · cases _e
    · cases _e
    · cases _e
    · cases _e
    · cases _e
    · cases _e
    · cases _e
    · cases _e
    · cases _e
    · exact ⟨pin_laid_internal_strconv_leftcheats, by kernel_rfl⟩
    · exact ⟨pin_laid_internal_strconv_pow10Tab, by kernel_rfl⟩) fits1
theorem fnIsfiniteCaseTableUpto_row_tie : Rows.fnIsfiniteCaseTableUptoRow.laidByTextAt .later Tryz.pinned [.data, .data, .widerDeep, .widerDeep, .data, .data, .data, .data, .data, .sentinel, .sentinel, .data, .data, .data, .data, .data, .pinned, .pinned] true :=
  OpenClaim.laidByTextAt_pinned rfl rfl tie rfl rfl rfl rfl (fun y hy _e => by
    simp only [Rows.fnIsfiniteCaseTableUptoRow, List.zip_cons_cons, List.zip_nil_right, List.mem_cons, List.mem_nil_iff, or_false] at hy
    rcases hy with rfl | rfl | rfl | rfl | rfl | rfl | rfl | rfl | rfl | rfl | rfl | rfl | rfl | rfl | rfl | rfl | rfl | rfl
    · cases _e
    · cases _e
    · cases _e
    · cases _e
    · cases _e
    · cases _e
    · cases _e
    · cases _e
    · cases _e
    · cases _e
    · cases _e
    · cases _e
    · cases _e
    · cases _e
    · cases _e
    · cases _e
    · exact ⟨pin_laid_internal_strconv_leftcheats, by kernel_rfl⟩
    · exact ⟨pin_laid_internal_strconv_pow10Tab, by kernel_rfl⟩) fits1
theorem fnIsnanCaseTableUpto_row_tie : Rows.fnIsnanCaseTableUptoRow.laidByTextAt .later Tryz.pinned [.data, .data, .widerDeep, .widerDeep, .data, .data, .data, .data, .data, .sentinel, .sentinel, .data, .data, .data, .data, .data, .pinned, .pinned] true :=
  OpenClaim.laidByTextAt_pinned rfl rfl tie rfl rfl rfl rfl (fun y hy _e => by
    simp only [Rows.fnIsnanCaseTableUptoRow, List.zip_cons_cons, List.zip_nil_right, List.mem_cons, List.mem_nil_iff, or_false] at hy
    rcases hy with rfl | rfl | rfl | rfl | rfl | rfl | rfl | rfl | rfl | rfl | rfl | rfl | rfl | rfl | rfl | rfl | rfl | rfl
    · cases _e
    · cases _e
    · cases _e
    · cases _e
    · cases _e
    · cases _e
    · cases _e
    · cases _e
    · cases _e
    · cases _e
    · cases _e
    · cases _e
    · cases _e
    · cases _e
    · cases _e
    · cases _e
    · exact ⟨pin_laid_internal_strconv_leftcheats, by kernel_rfl⟩
    · exact ⟨pin_laid_internal_strconv_pow10Tab, by kernel_rfl⟩) fits1
theorem fnIsfiniteIsinfiniteComplementUpto_row_tie : Rows.fnIsfiniteIsinfiniteComplementUptoRow.laidByTextAt .later Tryz.pinned [.data, .data, .widerDeep, .widerDeep, .data, .data, .data, .data, .data, .sentinel, .sentinel, .data, .data, .data, .data, .data, .pinned, .pinned] true :=
  OpenClaim.laidByTextAt_pinned rfl rfl tie rfl rfl rfl rfl (fun y hy _e => by
    simp only [Rows.fnIsfiniteIsinfiniteComplementUptoRow, List.zip_cons_cons, List.zip_nil_right, List.mem_cons, List.mem_nil_iff, or_false] at hy
    rcases hy with rfl | rfl | rfl | rfl | rfl | rfl | rfl | rfl | rfl | rfl | rfl | rfl | rfl | rfl | rfl | rfl | rfl | rfl
    · cases _e
    · cases _e
    · cases _e
    · cases _e
    · cases _e
    · cases _e
    · cases _e
    · cases _e
    · cases _e
    · cases _e
    · cases _e
    · cases _e
    · cases _e
    · cases _e
    · cases _e
    · cases _e
    · exact ⟨pin_laid_internal_strconv_leftcheats, by kernel_rfl⟩
    · exact ⟨pin_laid_internal_strconv_pow10Tab, by kernel_rfl⟩) fits1
theorem fnFloatClassPartitionUpto_row_tie : Rows.fnFloatClassPartitionUptoRow.laidByTextAt .later Tryz.pinned [.data, .data, .widerDeep, .widerDeep, .data, .data, .data, .data, .data, .sentinel, .sentinel, .data, .data, .data, .data, .data, .pinned, .pinned] true :=
  OpenClaim.laidByTextAt_pinned rfl rfl tie rfl rfl rfl rfl (fun y hy _e => by
    simp only [Rows.fnFloatClassPartitionUptoRow, List.zip_cons_cons, List.zip_nil_right, List.mem_cons, List.mem_nil_iff, or_false] at hy
    rcases hy with rfl | rfl | rfl | rfl | rfl | rfl | rfl | rfl | rfl | rfl | rfl | rfl | rfl | rfl | rfl | rfl | rfl | rfl
    · cases _e
    · cases _e
    · cases _e
    · cases _e
    · cases _e
    · cases _e
    · cases _e
    · cases _e
    · cases _e
    · cases _e
    · cases _e
    · cases _e
    · cases _e
    · cases _e
    · cases _e
    · cases _e
    · exact ⟨pin_laid_internal_strconv_leftcheats, by kernel_rfl⟩
    · exact ⟨pin_laid_internal_strconv_pow10Tab, by kernel_rfl⟩) fits1
theorem fnNanPredicatesAgreeUpto_row_tie : Rows.fnNanPredicatesAgreeUptoRow.laidByTextAt .later Tryz.pinned [.data, .data, .widerDeep, .widerDeep, .data, .data, .data, .data, .data, .sentinel, .sentinel, .data, .data, .data, .data, .data, .pinned, .pinned] true :=
  OpenClaim.laidByTextAt_pinned rfl rfl tie rfl rfl rfl rfl (fun y hy _e => by
    simp only [Rows.fnNanPredicatesAgreeUptoRow, List.zip_cons_cons, List.zip_nil_right, List.mem_cons, List.mem_nil_iff, or_false] at hy
    rcases hy with rfl | rfl | rfl | rfl | rfl | rfl | rfl | rfl | rfl | rfl | rfl | rfl | rfl | rfl | rfl | rfl | rfl | rfl
    · cases _e
    · cases _e
    · cases _e
    · cases _e
    · cases _e
    · cases _e
    · cases _e
    · cases _e
    · cases _e
    · cases _e
    · cases _e
    · cases _e
    · cases _e
    · cases _e
    · cases _e
    · cases _e
    · exact ⟨pin_laid_internal_strconv_leftcheats, by kernel_rfl⟩
    · exact ⟨pin_laid_internal_strconv_pow10Tab, by kernel_rfl⟩) fits1
end Go.Proofs.YtcidgldfccjkbaaGreatDoor
