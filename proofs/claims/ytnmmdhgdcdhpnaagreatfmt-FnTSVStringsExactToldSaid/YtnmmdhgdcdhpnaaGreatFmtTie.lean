/-
  DERIVED. GIVEN WITH THE SEED: THE PROGRAM's TIES (one call each: nine closed facts by the kernel) AND EACH ROW's TIE, after the 31st guide's Derived/Test/Toyas{Tie, Card}.lean. No idea stands in it: it is a product of the set-up. Laid BY PROGRAM, IN A SANDBOX (cutbox-door.mjs). By AI agents, Wed Nov 11 2026. No macro, syntax, notation, axiom, sorry.
-/
import Derived.Test.YtnmmdhgdcdhpnaaGreatFmtRows
import Derived.LaidByTextLater
import Derived.SevenTiedAt
import Derived.LaidSub
import Derived.LaidOnce
namespace Go.Proofs.YtnmmdhgdcdhpnaaGreatFmt
open Go
set_option maxRecDepth 100000
theorem seatTie1 : Tryz.prog.laidByTextLater [("math/bits.deBruijn32tab", Rows.laid_math_bits_deBruijn32tab), ("math/bits.deBruijn64tab", Rows.laid_math_bits_deBruijn64tab), ("internal/strconv.optimize", Rows.laid_internal_strconv_optimize), ("internal/strconv.uint64pow10", Rows.laid_internal_strconv_uint64pow10), ("unicode/utf8.acceptRanges", Rows.laid_unicode_utf8_acceptRanges), ("github.com/itchyny/gojq/pub/bigall.leafSize", Rows.laid_github_com_itchyny_gojq_pub_bigall_leafSize), ("github.com/itchyny/gojq/pub/bigall.divRecursiveThreshold", Rows.laid_github_com_itchyny_gojq_pub_bigall_divRecursiveThreshold), ("github.com/itchyny/gojq/pub/bigall.karatsubaThreshold", Rows.laid_github_com_itchyny_gojq_pub_bigall_karatsubaThreshold), ("github.com/itchyny/gojq/pub/bigall.basicSqrThreshold", Rows.laid_github_com_itchyny_gojq_pub_bigall_basicSqrThreshold), ("github.com/itchyny/gojq/pub/bigall.karatsubaSqrThreshold", Rows.laid_github_com_itchyny_gojq_pub_bigall_karatsubaSqrThreshold)] [.data, .data, .data, .data, .data, .data, .data, .data, .data, .data] true :=
  Program.laidByTextLater_by_one 58 8 65 (by kernel_rfl) (by kernel_rfl) (by kernel_rfl) (by kernel_rfl) (by kernel_rfl) (by kernel_rfl) (fun _ _ => by kernel_rfl)
theorem pin_laid_internal_strconv_leftcheats : Tryz.pinned.checked.prog.pinnedFits "internal/strconv.leftcheats" = true := by kernel_rfl
theorem pin_laid_internal_strconv_pow10Tab : Tryz.pinned.checked.prog.pinnedFits "internal/strconv.pow10Tab" = true := by kernel_rfl
theorem pin_laid_unicode_utf8_first : Tryz.pinned.checked.prog.pinnedFits "unicode/utf8.first" = true := by kernel_rfl
theorem noOwnUnsafe : Tryz.pinned.checked.prog.headLifts.contains "ownunsafe" = false := by kernel_rfl
theorem fits1 : Tryz.pinned.checked.prog.listedFits [("math/bits.deBruijn32tab", Rows.laid_math_bits_deBruijn32tab), ("math/bits.deBruijn64tab", Rows.laid_math_bits_deBruijn64tab), ("internal/strconv.optimize", Rows.laid_internal_strconv_optimize), ("internal/strconv.uint64pow10", Rows.laid_internal_strconv_uint64pow10), ("unicode/utf8.acceptRanges", Rows.laid_unicode_utf8_acceptRanges), ("github.com/itchyny/gojq/pub/bigall.leafSize", Rows.laid_github_com_itchyny_gojq_pub_bigall_leafSize), ("github.com/itchyny/gojq/pub/bigall.divRecursiveThreshold", Rows.laid_github_com_itchyny_gojq_pub_bigall_divRecursiveThreshold), ("github.com/itchyny/gojq/pub/bigall.karatsubaThreshold", Rows.laid_github_com_itchyny_gojq_pub_bigall_karatsubaThreshold), ("github.com/itchyny/gojq/pub/bigall.basicSqrThreshold", Rows.laid_github_com_itchyny_gojq_pub_bigall_basicSqrThreshold), ("github.com/itchyny/gojq/pub/bigall.karatsubaSqrThreshold", Rows.laid_github_com_itchyny_gojq_pub_bigall_karatsubaSqrThreshold), ("internal/strconv.leftcheats", Rows.laid_internal_strconv_leftcheats), ("internal/strconv.pow10Tab", Rows.laid_internal_strconv_pow10Tab), ("unicode/utf8.first", Rows.laid_unicode_utf8_first)] = true := by
  unfold Program.listedFits
  rw [noOwnUnsafe]
  kernel_rfl
theorem tie : Tryz.prog.laidByTextLater [("math/bits.deBruijn32tab", Rows.laid_math_bits_deBruijn32tab), ("math/bits.deBruijn64tab", Rows.laid_math_bits_deBruijn64tab), ("internal/strconv.optimize", Rows.laid_internal_strconv_optimize), ("internal/strconv.uint64pow10", Rows.laid_internal_strconv_uint64pow10), ("unicode/utf8.acceptRanges", Rows.laid_unicode_utf8_acceptRanges), ("github.com/itchyny/gojq/pub/bigall.leafSize", Rows.laid_github_com_itchyny_gojq_pub_bigall_leafSize), ("github.com/itchyny/gojq/pub/bigall.divRecursiveThreshold", Rows.laid_github_com_itchyny_gojq_pub_bigall_divRecursiveThreshold), ("github.com/itchyny/gojq/pub/bigall.karatsubaThreshold", Rows.laid_github_com_itchyny_gojq_pub_bigall_karatsubaThreshold), ("github.com/itchyny/gojq/pub/bigall.basicSqrThreshold", Rows.laid_github_com_itchyny_gojq_pub_bigall_basicSqrThreshold), ("github.com/itchyny/gojq/pub/bigall.karatsubaSqrThreshold", Rows.laid_github_com_itchyny_gojq_pub_bigall_karatsubaSqrThreshold)] [.data, .data, .data, .data, .data, .data, .data, .data, .data, .data] true :=
  Program.laidByTextLater.sub seatTie1 ["math/bits.deBruijn32tab", "math/bits.deBruijn64tab", "internal/strconv.optimize", "internal/strconv.uint64pow10", "unicode/utf8.acceptRanges", "github.com/itchyny/gojq/pub/bigall.leafSize", "github.com/itchyny/gojq/pub/bigall.divRecursiveThreshold", "github.com/itchyny/gojq/pub/bigall.karatsubaThreshold", "github.com/itchyny/gojq/pub/bigall.basicSqrThreshold", "github.com/itchyny/gojq/pub/bigall.karatsubaSqrThreshold"] (by kernel_rfl) (by kernel_rfl)
theorem fnShStringsExact_row_tie : Rows.fnShStringsExactRow.laidByTextAt .later Tryz.pinned [.data, .data, .data, .data, .data, .data, .data, .data, .data, .data, .pinned, .pinned, .pinned] true :=
  OpenClaim.laidByTextAt_pinned rfl rfl tie rfl rfl rfl rfl (fun y hy _e => by
    simp only [Rows.fnShStringsExactRow, List.zip_cons_cons, List.zip_nil_right, List.mem_cons, List.mem_nil_iff, or_false] at hy
    rcases hy with rfl | rfl | rfl | rfl | rfl | rfl | rfl | rfl | rfl | rfl | rfl | rfl | rfl
    · cases _e
    · cases _e
    · cases _e
    · cases _e
    · cases _e
    · cases _e
    · cases _e
    · cases _e
    · cases _e
    · cases _e
    · exact ⟨pin_laid_internal_strconv_leftcheats, by kernel_rfl⟩
    · exact ⟨pin_laid_internal_strconv_pow10Tab, by kernel_rfl⟩
    · exact ⟨pin_laid_unicode_utf8_first, by kernel_rfl⟩) fits1
theorem fnTSVStringsExact_row_tie : Rows.fnTSVStringsExactRow.laidByTextAt .later Tryz.pinned [.data, .data, .data, .data, .data, .data, .data, .data, .data, .data, .pinned, .pinned, .pinned] true :=
  OpenClaim.laidByTextAt_pinned rfl rfl tie rfl rfl rfl rfl (fun y hy _e => by
    simp only [Rows.fnTSVStringsExactRow, List.zip_cons_cons, List.zip_nil_right, List.mem_cons, List.mem_nil_iff, or_false] at hy
    rcases hy with rfl | rfl | rfl | rfl | rfl | rfl | rfl | rfl | rfl | rfl | rfl | rfl | rfl
    · cases _e
    · cases _e
    · cases _e
    · cases _e
    · cases _e
    · cases _e
    · cases _e
    · cases _e
    · cases _e
    · cases _e
    · exact ⟨pin_laid_internal_strconv_leftcheats, by kernel_rfl⟩
    · exact ⟨pin_laid_internal_strconv_pow10Tab, by kernel_rfl⟩
    · exact ⟨pin_laid_unicode_utf8_first, by kernel_rfl⟩) fits1
theorem fnTSVStringsRoundTrip_row_tie : Rows.fnTSVStringsRoundTripRow.laidByTextAt .later Tryz.pinned [.data, .data, .data, .data, .data, .data, .data, .data, .data, .data, .pinned, .pinned, .pinned] true :=
  OpenClaim.laidByTextAt_pinned rfl rfl tie rfl rfl rfl rfl (fun y hy _e => by
    simp only [Rows.fnTSVStringsRoundTripRow, List.zip_cons_cons, List.zip_nil_right, List.mem_cons, List.mem_nil_iff, or_false] at hy
    rcases hy with rfl | rfl | rfl | rfl | rfl | rfl | rfl | rfl | rfl | rfl | rfl | rfl | rfl
    · cases _e
    · cases _e
    · cases _e
    · cases _e
    · cases _e
    · cases _e
    · cases _e
    · cases _e
    · cases _e
    · cases _e
    · exact ⟨pin_laid_internal_strconv_leftcheats, by kernel_rfl⟩
    · exact ⟨pin_laid_internal_strconv_pow10Tab, by kernel_rfl⟩
    · exact ⟨pin_laid_unicode_utf8_first, by kernel_rfl⟩) fits1
theorem fnShStringsRoundTrip_row_tie : Rows.fnShStringsRoundTripRow.laidByTextAt .later Tryz.pinned [.data, .data, .data, .data, .data, .data, .data, .data, .data, .data, .pinned, .pinned, .pinned] true :=
  OpenClaim.laidByTextAt_pinned rfl rfl tie rfl rfl rfl rfl (fun y hy _e => by
    simp only [Rows.fnShStringsRoundTripRow, List.zip_cons_cons, List.zip_nil_right, List.mem_cons, List.mem_nil_iff, or_false] at hy
    rcases hy with rfl | rfl | rfl | rfl | rfl | rfl | rfl | rfl | rfl | rfl | rfl | rfl | rfl
    · cases _e
    · cases _e
    · cases _e
    · cases _e
    · cases _e
    · cases _e
    · cases _e
    · cases _e
    · cases _e
    · cases _e
    · exact ⟨pin_laid_internal_strconv_leftcheats, by kernel_rfl⟩
    · exact ⟨pin_laid_internal_strconv_pow10Tab, by kernel_rfl⟩
    · exact ⟨pin_laid_unicode_utf8_first, by kernel_rfl⟩) fits1
theorem fnFormatJoinShRowTable_row_tie : Rows.fnFormatJoinShRowTableRow.laidByTextAt .later Tryz.pinned [.data, .data, .data, .data, .data, .data, .data, .data, .data, .data, .pinned, .pinned, .pinned] true :=
  OpenClaim.laidByTextAt_pinned rfl rfl tie rfl rfl rfl rfl (fun y hy _e => by
    simp only [Rows.fnFormatJoinShRowTableRow, List.zip_cons_cons, List.zip_nil_right, List.mem_cons, List.mem_nil_iff, or_false] at hy
    rcases hy with rfl | rfl | rfl | rfl | rfl | rfl | rfl | rfl | rfl | rfl | rfl | rfl | rfl
    · cases _e
    · cases _e
    · cases _e
    · cases _e
    · cases _e
    · cases _e
    · cases _e
    · cases _e
    · cases _e
    · cases _e
    · exact ⟨pin_laid_internal_strconv_leftcheats, by kernel_rfl⟩
    · exact ⟨pin_laid_internal_strconv_pow10Tab, by kernel_rfl⟩
    · exact ⟨pin_laid_unicode_utf8_first, by kernel_rfl⟩) fits1
theorem fnFormatJoinTSVRowTable_row_tie : Rows.fnFormatJoinTSVRowTableRow.laidByTextAt .later Tryz.pinned [.data, .data, .data, .data, .data, .data, .data, .data, .data, .data, .pinned, .pinned, .pinned] true :=
  OpenClaim.laidByTextAt_pinned rfl rfl tie rfl rfl rfl rfl (fun y hy _e => by
    simp only [Rows.fnFormatJoinTSVRowTableRow, List.zip_cons_cons, List.zip_nil_right, List.mem_cons, List.mem_nil_iff, or_false] at hy
    rcases hy with rfl | rfl | rfl | rfl | rfl | rfl | rfl | rfl | rfl | rfl | rfl | rfl | rfl
    · cases _e
    · cases _e
    · cases _e
    · cases _e
    · cases _e
    · cases _e
    · cases _e
    · cases _e
    · cases _e
    · cases _e
    · exact ⟨pin_laid_internal_strconv_leftcheats, by kernel_rfl⟩
    · exact ⟨pin_laid_internal_strconv_pow10Tab, by kernel_rfl⟩
    · exact ⟨pin_laid_unicode_utf8_first, by kernel_rfl⟩) fits1
theorem fnBase64RoundTrip_row_tie : Rows.fnBase64RoundTripRow.laidByTextAt .later Tryz.pinned [.data, .data, .data, .data, .data, .data, .data, .data, .data, .data, .pinned, .pinned, .pinned] true :=
  OpenClaim.laidByTextAt_pinned rfl rfl tie rfl rfl rfl rfl (fun y hy _e => by
    simp only [Rows.fnBase64RoundTripRow, List.zip_cons_cons, List.zip_nil_right, List.mem_cons, List.mem_nil_iff, or_false] at hy
    rcases hy with rfl | rfl | rfl | rfl | rfl | rfl | rfl | rfl | rfl | rfl | rfl | rfl | rfl
    · cases _e
    · cases _e
    · cases _e
    · cases _e
    · cases _e
    · cases _e
    · cases _e
    · cases _e
    · cases _e
    · cases _e
    · exact ⟨pin_laid_internal_strconv_leftcheats, by kernel_rfl⟩
    · exact ⟨pin_laid_internal_strconv_pow10Tab, by kernel_rfl⟩
    · exact ⟨pin_laid_unicode_utf8_first, by kernel_rfl⟩) fits1
end Go.Proofs.YtnmmdhgdcdhpnaaGreatFmt
