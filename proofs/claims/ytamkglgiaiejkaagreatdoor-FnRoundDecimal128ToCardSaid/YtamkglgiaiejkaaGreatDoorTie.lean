/-
  DERIVED. GIVEN WITH THE SEED: THE PROGRAM's TIES (one call each: nine closed facts by the kernel) AND EACH ROW's TIE, after the 31st guide's Derived/Test/Toyas{Tie, Card}.lean. No idea stands in it: it is a product of the set-up. Laid BY PROGRAM, IN A SANDBOX (cutbox-door.mjs). By AI agents, Wed Nov 11 2026. No macro, syntax, notation, axiom, sorry.
-/
import Derived.Test.YtamkglgiaiejkaaGreatDoorRows
import Derived.LaidByTextLater
import Derived.SevenTiedAt
import Derived.LaidSub
import Derived.LaidOnce
namespace Go.Proofs.YtamkglgiaiejkaaGreatDoor
open Go
set_option maxRecDepth 100000
theorem seatTie1 : Tryz.prog.laidByTextLater [("math/bits.deBruijn32tab", Rows.laid_math_bits_deBruijn32tab), ("math/bits.deBruijn64tab", Rows.laid_math_bits_deBruijn64tab), ("internal/strconv.uint64pow10", Rows.laid_internal_strconv_uint64pow10), ("unicode/utf8.acceptRanges", Rows.laid_unicode_utf8_acceptRanges), ("given.example/pub-arrowroot/pub/bigall.leafSize", Rows.laid_given_example_pub_arrowroot_pub_bigall_leafSize), ("given.example/pub-arrowroot/pub/bigall.divRecursiveThreshold", Rows.laid_given_example_pub_arrowroot_pub_bigall_divRecursiveThreshold), ("given.example/pub-arrowroot/pub/bigall.karatsubaThreshold", Rows.laid_given_example_pub_arrowroot_pub_bigall_karatsubaThreshold), ("given.example/pub-arrowroot/pub/bigall.basicSqrThreshold", Rows.laid_given_example_pub_arrowroot_pub_bigall_basicSqrThreshold), ("given.example/pub-arrowroot/pub/bigall.karatsubaSqrThreshold", Rows.laid_given_example_pub_arrowroot_pub_bigall_karatsubaSqrThreshold), ("given.example/pub-arrowroot/pub/arrow/arrow/decimal128.scaleMultipliers", Rows.laid_given_example_pub_arrowroot_pub_arrow_arrow_decimal128_scaleMultipliers), ("given.example/pub-arrowroot/pub/arrow/arrow/decimal128.scaleMultipliersHalf", Rows.laid_given_example_pub_arrowroot_pub_arrow_arrow_decimal128_scaleMultipliersHalf)] [.data, .data, .data, .data, .data, .data, .data, .data, .data, .wider, .data] true :=
  Program.laidByTextLater_by_one 142 8 79 (by kernel_rfl) (by kernel_rfl) (by kernel_rfl) (by kernel_rfl) (by kernel_rfl) (by kernel_rfl) (fun _ _ => by kernel_rfl)
theorem pin_laid_unicode_utf8_first : Tryz.pinned.checked.prog.pinnedFits "unicode/utf8.first" = true := by kernel_rfl
theorem noOwnUnsafe : Tryz.pinned.checked.prog.headLifts.contains "ownunsafe" = false := by kernel_rfl
theorem fits1 : Tryz.pinned.checked.prog.listedFits [("math/bits.deBruijn32tab", Rows.laid_math_bits_deBruijn32tab), ("math/bits.deBruijn64tab", Rows.laid_math_bits_deBruijn64tab), ("internal/strconv.uint64pow10", Rows.laid_internal_strconv_uint64pow10), ("unicode/utf8.acceptRanges", Rows.laid_unicode_utf8_acceptRanges), ("given.example/pub-arrowroot/pub/bigall.leafSize", Rows.laid_given_example_pub_arrowroot_pub_bigall_leafSize), ("given.example/pub-arrowroot/pub/bigall.divRecursiveThreshold", Rows.laid_given_example_pub_arrowroot_pub_bigall_divRecursiveThreshold), ("given.example/pub-arrowroot/pub/bigall.karatsubaThreshold", Rows.laid_given_example_pub_arrowroot_pub_bigall_karatsubaThreshold), ("given.example/pub-arrowroot/pub/bigall.basicSqrThreshold", Rows.laid_given_example_pub_arrowroot_pub_bigall_basicSqrThreshold), ("given.example/pub-arrowroot/pub/bigall.karatsubaSqrThreshold", Rows.laid_given_example_pub_arrowroot_pub_bigall_karatsubaSqrThreshold), ("given.example/pub-arrowroot/pub/arrow/arrow/decimal128.scaleMultipliers", Rows.laid_given_example_pub_arrowroot_pub_arrow_arrow_decimal128_scaleMultipliers), ("given.example/pub-arrowroot/pub/arrow/arrow/decimal128.scaleMultipliersHalf", Rows.laid_given_example_pub_arrowroot_pub_arrow_arrow_decimal128_scaleMultipliersHalf), ("unicode/utf8.first", Rows.laid_unicode_utf8_first)] = true := by
  unfold Program.listedFits
  rw [noOwnUnsafe]
  kernel_rfl
theorem tie : Tryz.prog.laidByTextLater [("math/bits.deBruijn32tab", Rows.laid_math_bits_deBruijn32tab), ("math/bits.deBruijn64tab", Rows.laid_math_bits_deBruijn64tab), ("internal/strconv.uint64pow10", Rows.laid_internal_strconv_uint64pow10), ("unicode/utf8.acceptRanges", Rows.laid_unicode_utf8_acceptRanges), ("given.example/pub-arrowroot/pub/bigall.leafSize", Rows.laid_given_example_pub_arrowroot_pub_bigall_leafSize), ("given.example/pub-arrowroot/pub/bigall.divRecursiveThreshold", Rows.laid_given_example_pub_arrowroot_pub_bigall_divRecursiveThreshold), ("given.example/pub-arrowroot/pub/bigall.karatsubaThreshold", Rows.laid_given_example_pub_arrowroot_pub_bigall_karatsubaThreshold), ("given.example/pub-arrowroot/pub/bigall.basicSqrThreshold", Rows.laid_given_example_pub_arrowroot_pub_bigall_basicSqrThreshold), ("given.example/pub-arrowroot/pub/bigall.karatsubaSqrThreshold", Rows.laid_given_example_pub_arrowroot_pub_bigall_karatsubaSqrThreshold), ("given.example/pub-arrowroot/pub/arrow/arrow/decimal128.scaleMultipliers", Rows.laid_given_example_pub_arrowroot_pub_arrow_arrow_decimal128_scaleMultipliers), ("given.example/pub-arrowroot/pub/arrow/arrow/decimal128.scaleMultipliersHalf", Rows.laid_given_example_pub_arrowroot_pub_arrow_arrow_decimal128_scaleMultipliersHalf)] [.data, .data, .data, .data, .data, .data, .data, .data, .data, .wider, .data] true :=
  Program.laidByTextLater.sub seatTie1 ["math/bits.deBruijn32tab", "math/bits.deBruijn64tab", "internal/strconv.uint64pow10", "unicode/utf8.acceptRanges", "given.example/pub-arrowroot/pub/bigall.leafSize", "given.example/pub-arrowroot/pub/bigall.divRecursiveThreshold", "given.example/pub-arrowroot/pub/bigall.karatsubaThreshold", "given.example/pub-arrowroot/pub/bigall.basicSqrThreshold", "given.example/pub-arrowroot/pub/bigall.karatsubaSqrThreshold", "given.example/pub-arrowroot/pub/arrow/arrow/decimal128.scaleMultipliers", "given.example/pub-arrowroot/pub/arrow/arrow/decimal128.scaleMultipliersHalf"] (by kernel_rfl) (by kernel_rfl)
theorem fnRoundDecimal128To_row_tie : Rows.fnRoundDecimal128ToRow.laidByTextAt .later Tryz.pinned [.data, .data, .data, .data, .data, .data, .data, .data, .data, .wider, .data, .pinned] true :=
  OpenClaim.laidByTextAt_pinned rfl rfl tie rfl rfl rfl rfl (fun y hy _e => by
    simp only [Rows.fnRoundDecimal128ToRow, List.zip_cons_cons, List.zip_nil_right, List.mem_cons, List.mem_nil_iff, or_false] at hy
    rcases hy with rfl | rfl | rfl | rfl | rfl | rfl | rfl | rfl | rfl | rfl | rfl | rfl
    · cases _e
    · cases _e
    · cases _e
    · cases _e
    · cases _e
    · cases _e
    · cases _e
    · cases _e
    · cases _e
    · cases _e
    · cases _e
    · exact ⟨pin_laid_unicode_utf8_first, by kernel_rfl⟩) fits1
theorem fnRoundDecimal128ToUpto_row_tie : Rows.fnRoundDecimal128ToUptoRow.laidByTextAt .later Tryz.pinned [.data, .data, .data, .data, .data, .data, .data, .data, .data, .wider, .data, .pinned] true :=
  OpenClaim.laidByTextAt_pinned rfl rfl tie rfl rfl rfl rfl (fun y hy _e => by
    simp only [Rows.fnRoundDecimal128ToUptoRow, List.zip_cons_cons, List.zip_nil_right, List.mem_cons, List.mem_nil_iff, or_false] at hy
    rcases hy with rfl | rfl | rfl | rfl | rfl | rfl | rfl | rfl | rfl | rfl | rfl | rfl
    · cases _e
    · cases _e
    · cases _e
    · cases _e
    · cases _e
    · cases _e
    · cases _e
    · cases _e
    · cases _e
    · cases _e
    · cases _e
    · exact ⟨pin_laid_unicode_utf8_first, by kernel_rfl⟩) fits1
end Go.Proofs.YtamkglgiaiejkaaGreatDoor
