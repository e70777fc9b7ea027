/-
  DERIVED. GIVEN WITH THE SEED: THE PROGRAM's TIES (one call each: nine closed facts by the kernel) AND EACH ROW's TIE, after the 31st guide's Derived/Test/Toyas{Tie, Card}.lean. No idea stands in it: it is a product of the set-up. Laid BY PROGRAM, IN A SANDBOX (cutbox-door.mjs). By AI agents, Wed Nov 11 2026. No macro, syntax, notation, axiom, sorry.
-/
import Derived.Test.YtfkecmlmnhbmoaaGreatDoorRows
import Derived.LaidByTextLater
import Derived.SevenTiedAt
import Derived.LaidSub
import Derived.LaidOnce
namespace Go.Proofs.YtfkecmlmnhbmoaaGreatDoor
open Go
set_option maxRecDepth 100000
theorem seatTie1 : Tryz.prog.laidByTextLater [("math/bits.deBruijn32tab", Rows.laid_math_bits_deBruijn32tab), ("math/bits.deBruijn64tab", Rows.laid_math_bits_deBruijn64tab), ("internal/strconv.float32info", Rows.laid_internal_strconv_float32info), ("internal/strconv.float64info", Rows.laid_internal_strconv_float64info), ("internal/strconv.optimize", Rows.laid_internal_strconv_optimize), ("internal/strconv.powtab", Rows.laid_internal_strconv_powtab), ("internal/strconv.float64pow10", Rows.laid_internal_strconv_float64pow10), ("internal/strconv.float32pow10", Rows.laid_internal_strconv_float32pow10), ("internal/strconv.uint64pow10", Rows.laid_internal_strconv_uint64pow10), ("strconv.ErrRange", Rows.laid_strconv_ErrRange), ("strconv.ErrSyntax", Rows.laid_strconv_ErrSyntax)] [.data, .data, .widerDeep, .widerDeep, .data, .data, .data, .data, .data, .sentinel, .sentinel] true :=
  Program.laidByTextLater_by_one 348 8 65 (by kernel_rfl) (by kernel_rfl) (by kernel_rfl) (by kernel_rfl) (by kernel_rfl) (by kernel_rfl) (fun _ _ => by kernel_rfl)
theorem seatTie2 : Tryz.prog.laidByTextLater [("math/bits.deBruijn32tab", Rows.laid_math_bits_deBruijn32tab), ("math/bits.deBruijn64tab", Rows.laid_math_bits_deBruijn64tab), ("internal/strconv.float32info", Rows.laid_internal_strconv_float32info), ("internal/strconv.float64info", Rows.laid_internal_strconv_float64info), ("internal/strconv.optimize", Rows.laid_internal_strconv_optimize), ("internal/strconv.powtab", Rows.laid_internal_strconv_powtab), ("internal/strconv.float64pow10", Rows.laid_internal_strconv_float64pow10), ("internal/strconv.float32pow10", Rows.laid_internal_strconv_float32pow10), ("internal/strconv.uint64pow10", Rows.laid_internal_strconv_uint64pow10), ("unicode/utf8.acceptRanges", Rows.laid_unicode_utf8_acceptRanges), ("strconv.ErrRange", Rows.laid_strconv_ErrRange), ("strconv.ErrSyntax", Rows.laid_strconv_ErrSyntax), ("encoding/hex.ErrLength", Rows.laid_encoding_hex_ErrLength), ("given.example/pub-foolscap/pub/pdfcpu/pkg/pdfcpu/model.ErrDictionaryCorrupt", Rows.laid_given_example_pub_foolscap_pub_pdfcpu_pkg_pdfcpu_model_ErrDictionaryCorrupt), ("given.example/pub-foolscap/pub/pdfcpu/pkg/pdfcpu/model.errArrayCorrupt", Rows.laid_given_example_pub_foolscap_pub_pdfcpu_pkg_pdfcpu_model_errArrayCorrupt), ("given.example/pub-foolscap/pub/pdfcpu/pkg/pdfcpu/model.errArrayNotTerminated", Rows.laid_given_example_pub_foolscap_pub_pdfcpu_pkg_pdfcpu_model_errArrayNotTerminated), ("given.example/pub-foolscap/pub/pdfcpu/pkg/pdfcpu/model.errDictionaryNotTerminated", Rows.laid_given_example_pub_foolscap_pub_pdfcpu_pkg_pdfcpu_model_errDictionaryNotTerminated), ("given.example/pub-foolscap/pub/pdfcpu/pkg/pdfcpu/model.errHexLiteralCorrupt", Rows.laid_given_example_pub_foolscap_pub_pdfcpu_pkg_pdfcpu_model_errHexLiteralCorrupt), ("given.example/pub-foolscap/pub/pdfcpu/pkg/pdfcpu/model.errHexLiteralNotTerminated", Rows.laid_given_example_pub_foolscap_pub_pdfcpu_pkg_pdfcpu_model_errHexLiteralNotTerminated), ("given.example/pub-foolscap/pub/pdfcpu/pkg/pdfcpu/model.errNameObjectCorrupt", Rows.laid_given_example_pub_foolscap_pub_pdfcpu_pkg_pdfcpu_model_errNameObjectCorrupt), ("given.example/pub-foolscap/pub/pdfcpu/pkg/pdfcpu/model.errNoArray", Rows.laid_given_example_pub_foolscap_pub_pdfcpu_pkg_pdfcpu_model_errNoArray), ("given.example/pub-foolscap/pub/pdfcpu/pkg/pdfcpu/model.errNoDictionary", Rows.laid_given_example_pub_foolscap_pub_pdfcpu_pkg_pdfcpu_model_errNoDictionary), ("given.example/pub-foolscap/pub/pdfcpu/pkg/pdfcpu/model.errStringLiteralCorrupt", Rows.laid_given_example_pub_foolscap_pub_pdfcpu_pkg_pdfcpu_model_errStringLiteralCorrupt), ("given.example/pub-foolscap/pub/pdfcpu/pkg/pdfcpu/model.errBufNotAvailable", Rows.laid_given_example_pub_foolscap_pub_pdfcpu_pkg_pdfcpu_model_errBufNotAvailable), ("given.example/pub-foolscap/pub/pdfcpu/pkg/pdfcpu/model.ErrMaxRecursionDepthExceeded", Rows.laid_given_example_pub_foolscap_pub_pdfcpu_pkg_pdfcpu_model_ErrMaxRecursionDepthExceeded)] [.data, .data, .widerDeep, .widerDeep, .data, .data, .data, .data, .data, .data, .sentinel, .sentinel, .sentinel, .sentinel, .sentinel, .sentinel, .sentinel, .sentinel, .sentinel, .sentinel, .sentinel, .sentinel, .sentinel, .sentinel, .sentinel] true :=
  Program.laidByTextLater_by_one 348 8 65 (by kernel_rfl) (by kernel_rfl) (by kernel_rfl) (by kernel_rfl) (by kernel_rfl) (by kernel_rfl) (fun _ _ => by kernel_rfl)
theorem pin_laid_internal_strconv_leftcheats : Tryz.pinned.checked.prog.pinnedFits "internal/strconv.leftcheats" = true := by kernel_rfl
theorem pin_laid_internal_strconv_pow10Tab : Tryz.pinned.checked.prog.pinnedFits "internal/strconv.pow10Tab" = true := by kernel_rfl
theorem pin_laid_unicode_utf8_first : Tryz.pinned.checked.prog.pinnedFits "unicode/utf8.first" = true := by kernel_rfl
theorem noOwnUnsafe : Tryz.pinned.checked.prog.headLifts.contains "ownunsafe" = false := by kernel_rfl
theorem fits1 : Tryz.pinned.checked.prog.listedFits [("math/bits.deBruijn32tab", Rows.laid_math_bits_deBruijn32tab), ("math/bits.deBruijn64tab", Rows.laid_math_bits_deBruijn64tab), ("internal/strconv.float32info", Rows.laid_internal_strconv_float32info), ("internal/strconv.float64info", Rows.laid_internal_strconv_float64info), ("internal/strconv.optimize", Rows.laid_internal_strconv_optimize), ("internal/strconv.powtab", Rows.laid_internal_strconv_powtab), ("internal/strconv.float64pow10", Rows.laid_internal_strconv_float64pow10), ("internal/strconv.float32pow10", Rows.laid_internal_strconv_float32pow10), ("internal/strconv.uint64pow10", Rows.laid_internal_strconv_uint64pow10), ("strconv.ErrRange", Rows.laid_strconv_ErrRange), ("strconv.ErrSyntax", Rows.laid_strconv_ErrSyntax), ("internal/strconv.leftcheats", Rows.laid_internal_strconv_leftcheats), ("internal/strconv.pow10Tab", Rows.laid_internal_strconv_pow10Tab)] = true := by
  unfold Program.listedFits
  rw [noOwnUnsafe]
  kernel_rfl
theorem tie : Tryz.prog.laidByTextLater [("math/bits.deBruijn32tab", Rows.laid_math_bits_deBruijn32tab), ("math/bits.deBruijn64tab", Rows.laid_math_bits_deBruijn64tab), ("internal/strconv.float32info", Rows.laid_internal_strconv_float32info), ("internal/strconv.float64info", Rows.laid_internal_strconv_float64info), ("internal/strconv.optimize", Rows.laid_internal_strconv_optimize), ("internal/strconv.powtab", Rows.laid_internal_strconv_powtab), ("internal/strconv.float64pow10", Rows.laid_internal_strconv_float64pow10), ("internal/strconv.float32pow10", Rows.laid_internal_strconv_float32pow10), ("internal/strconv.uint64pow10", Rows.laid_internal_strconv_uint64pow10), ("strconv.ErrRange", Rows.laid_strconv_ErrRange), ("strconv.ErrSyntax", Rows.laid_strconv_ErrSyntax)] [.data, .data, .widerDeep, .widerDeep, .data, .data, .data, .data, .data, .sentinel, .sentinel] true :=
  Program.laidByTextLater.sub seatTie1 ["math/bits.deBruijn32tab", "math/bits.deBruijn64tab", "internal/strconv.float32info", "internal/strconv.float64info", "internal/strconv.optimize", "internal/strconv.powtab", "internal/strconv.float64pow10", "internal/strconv.float32pow10", "internal/strconv.uint64pow10", "strconv.ErrRange", "strconv.ErrSyntax"] (by kernel_rfl) (by kernel_rfl)
theorem fnPrint_row_tie : Rows.fnPrintRow.laidByTextAt .later Tryz.pinned [.data, .data, .widerDeep, .widerDeep, .data, .data, .data, .data, .data, .sentinel, .sentinel, .pinned, .pinned] true :=
  OpenClaim.laidByTextAt_pinned rfl rfl tie rfl rfl rfl rfl (fun y hy _e => by
    simp only [Rows.fnPrintRow, List.zip_cons_cons, List.zip_nil_right, List.mem_cons, List.mem_nil_iff, or_false] at hy
    rcases hy with rfl | rfl | rfl | rfl | rfl | rfl | rfl | rfl | rfl | rfl | rfl | rfl | rfl
    · cases _e
    · cases _e
    · cases _e
    · cases _e
    · cases _e
    · cases _e
    · cases _e
    · cases _e
    · cases _e
    · cases _e
    · cases _e
    · exact ⟨pin_laid_internal_strconv_leftcheats, by kernel_rfl⟩
    · exact ⟨pin_laid_internal_strconv_pow10Tab, by kernel_rfl⟩) fits1
theorem fits2 : Tryz.pinned.checked.prog.listedFits [("math/bits.deBruijn32tab", Rows.laid_math_bits_deBruijn32tab), ("math/bits.deBruijn64tab", Rows.laid_math_bits_deBruijn64tab), ("internal/strconv.float32info", Rows.laid_internal_strconv_float32info), ("internal/strconv.float64info", Rows.laid_internal_strconv_float64info), ("internal/strconv.optimize", Rows.laid_internal_strconv_optimize), ("internal/strconv.powtab", Rows.laid_internal_strconv_powtab), ("internal/strconv.float64pow10", Rows.laid_internal_strconv_float64pow10), ("internal/strconv.float32pow10", Rows.laid_internal_strconv_float32pow10), ("internal/strconv.uint64pow10", Rows.laid_internal_strconv_uint64pow10), ("unicode/utf8.acceptRanges", Rows.laid_unicode_utf8_acceptRanges), ("strconv.ErrRange", Rows.laid_strconv_ErrRange), ("strconv.ErrSyntax", Rows.laid_strconv_ErrSyntax), ("encoding/hex.ErrLength", Rows.laid_encoding_hex_ErrLength), ("given.example/pub-foolscap/pub/pdfcpu/pkg/pdfcpu/model.ErrDictionaryCorrupt", Rows.laid_given_example_pub_foolscap_pub_pdfcpu_pkg_pdfcpu_model_ErrDictionaryCorrupt), ("given.example/pub-foolscap/pub/pdfcpu/pkg/pdfcpu/model.errArrayCorrupt", Rows.laid_given_example_pub_foolscap_pub_pdfcpu_pkg_pdfcpu_model_errArrayCorrupt), ("given.example/pub-foolscap/pub/pdfcpu/pkg/pdfcpu/model.errArrayNotTerminated", Rows.laid_given_example_pub_foolscap_pub_pdfcpu_pkg_pdfcpu_model_errArrayNotTerminated), ("given.example/pub-foolscap/pub/pdfcpu/pkg/pdfcpu/model.errDictionaryNotTerminated", Rows.laid_given_example_pub_foolscap_pub_pdfcpu_pkg_pdfcpu_model_errDictionaryNotTerminated), ("given.example/pub-foolscap/pub/pdfcpu/pkg/pdfcpu/model.errHexLiteralCorrupt", Rows.laid_given_example_pub_foolscap_pub_pdfcpu_pkg_pdfcpu_model_errHexLiteralCorrupt), ("given.example/pub-foolscap/pub/pdfcpu/pkg/pdfcpu/model.errHexLiteralNotTerminated", Rows.laid_given_example_pub_foolscap_pub_pdfcpu_pkg_pdfcpu_model_errHexLiteralNotTerminated), ("given.example/pub-foolscap/pub/pdfcpu/pkg/pdfcpu/model.errNameObjectCorrupt", Rows.laid_given_example_pub_foolscap_pub_pdfcpu_pkg_pdfcpu_model_errNameObjectCorrupt), ("given.example/pub-foolscap/pub/pdfcpu/pkg/pdfcpu/model.errNoArray", Rows.laid_given_example_pub_foolscap_pub_pdfcpu_pkg_pdfcpu_model_errNoArray), ("given.example/pub-foolscap/pub/pdfcpu/pkg/pdfcpu/model.errNoDictionary", Rows.laid_given_example_pub_foolscap_pub_pdfcpu_pkg_pdfcpu_model_errNoDictionary), ("given.example/pub-foolscap/pub/pdfcpu/pkg/pdfcpu/model.errStringLiteralCorrupt", Rows.laid_given_example_pub_foolscap_pub_pdfcpu_pkg_pdfcpu_model_errStringLiteralCorrupt), ("given.example/pub-foolscap/pub/pdfcpu/pkg/pdfcpu/model.errBufNotAvailable", Rows.laid_given_example_pub_foolscap_pub_pdfcpu_pkg_pdfcpu_model_errBufNotAvailable), ("given.example/pub-foolscap/pub/pdfcpu/pkg/pdfcpu/model.ErrMaxRecursionDepthExceeded", Rows.laid_given_example_pub_foolscap_pub_pdfcpu_pkg_pdfcpu_model_ErrMaxRecursionDepthExceeded), ("internal/strconv.leftcheats", Rows.laid_internal_strconv_leftcheats), ("internal/strconv.pow10Tab", Rows.laid_internal_strconv_pow10Tab), ("unicode/utf8.first", Rows.laid_unicode_utf8_first)] = true := by
  unfold Program.listedFits
  rw [noOwnUnsafe]
  kernel_rfl
theorem tie2 : Tryz.prog.laidByTextLater [("math/bits.deBruijn32tab", Rows.laid_math_bits_deBruijn32tab), ("math/bits.deBruijn64tab", Rows.laid_math_bits_deBruijn64tab), ("internal/strconv.float32info", Rows.laid_internal_strconv_float32info), ("internal/strconv.float64info", Rows.laid_internal_strconv_float64info), ("internal/strconv.optimize", Rows.laid_internal_strconv_optimize), ("internal/strconv.powtab", Rows.laid_internal_strconv_powtab), ("internal/strconv.float64pow10", Rows.laid_internal_strconv_float64pow10), ("internal/strconv.float32pow10", Rows.laid_internal_strconv_float32pow10), ("internal/strconv.uint64pow10", Rows.laid_internal_strconv_uint64pow10), ("unicode/utf8.acceptRanges", Rows.laid_unicode_utf8_acceptRanges), ("strconv.ErrRange", Rows.laid_strconv_ErrRange), ("strconv.ErrSyntax", Rows.laid_strconv_ErrSyntax), ("encoding/hex.ErrLength", Rows.laid_encoding_hex_ErrLength), ("given.example/pub-foolscap/pub/pdfcpu/pkg/pdfcpu/model.ErrDictionaryCorrupt", Rows.laid_given_example_pub_foolscap_pub_pdfcpu_pkg_pdfcpu_model_ErrDictionaryCorrupt), ("given.example/pub-foolscap/pub/pdfcpu/pkg/pdfcpu/model.errArrayCorrupt", Rows.laid_given_example_pub_foolscap_pub_pdfcpu_pkg_pdfcpu_model_errArrayCorrupt), ("given.example/pub-foolscap/pub/pdfcpu/pkg/pdfcpu/model.errArrayNotTerminated", Rows.laid_given_example_pub_foolscap_pub_pdfcpu_pkg_pdfcpu_model_errArrayNotTerminated), ("given.example/pub-foolscap/pub/pdfcpu/pkg/pdfcpu/model.errDictionaryNotTerminated", Rows.laid_given_example_pub_foolscap_pub_pdfcpu_pkg_pdfcpu_model_errDictionaryNotTerminated), ("given.example/pub-foolscap/pub/pdfcpu/pkg/pdfcpu/model.errHexLiteralCorrupt", Rows.laid_given_example_pub_foolscap_pub_pdfcpu_pkg_pdfcpu_model_errHexLiteralCorrupt), ("given.example/pub-foolscap/pub/pdfcpu/pkg/pdfcpu/model.errHexLiteralNotTerminated", Rows.laid_given_example_pub_foolscap_pub_pdfcpu_pkg_pdfcpu_model_errHexLiteralNotTerminated), ("given.example/pub-foolscap/pub/pdfcpu/pkg/pdfcpu/model.errNameObjectCorrupt", Rows.laid_given_example_pub_foolscap_pub_pdfcpu_pkg_pdfcpu_model_errNameObjectCorrupt), ("given.example/pub-foolscap/pub/pdfcpu/pkg/pdfcpu/model.errNoArray", Rows.laid_given_example_pub_foolscap_pub_pdfcpu_pkg_pdfcpu_model_errNoArray), ("given.example/pub-foolscap/pub/pdfcpu/pkg/pdfcpu/model.errNoDictionary", Rows.laid_given_example_pub_foolscap_pub_pdfcpu_pkg_pdfcpu_model_errNoDictionary), ("given.example/pub-foolscap/pub/pdfcpu/pkg/pdfcpu/model.errStringLiteralCorrupt", Rows.laid_given_example_pub_foolscap_pub_pdfcpu_pkg_pdfcpu_model_errStringLiteralCorrupt), ("given.example/pub-foolscap/pub/pdfcpu/pkg/pdfcpu/model.errBufNotAvailable", Rows.laid_given_example_pub_foolscap_pub_pdfcpu_pkg_pdfcpu_model_errBufNotAvailable), ("given.example/pub-foolscap/pub/pdfcpu/pkg/pdfcpu/model.ErrMaxRecursionDepthExceeded", Rows.laid_given_example_pub_foolscap_pub_pdfcpu_pkg_pdfcpu_model_ErrMaxRecursionDepthExceeded)] [.data, .data, .widerDeep, .widerDeep, .data, .data, .data, .data, .data, .data, .sentinel, .sentinel, .sentinel, .sentinel, .sentinel, .sentinel, .sentinel, .sentinel, .sentinel, .sentinel, .sentinel, .sentinel, .sentinel, .sentinel, .sentinel] true :=
  Program.laidByTextLater.sub seatTie2 ["math/bits.deBruijn32tab", "math/bits.deBruijn64tab", "internal/strconv.float32info", "internal/strconv.float64info", "internal/strconv.optimize", "internal/strconv.powtab", "internal/strconv.float64pow10", "internal/strconv.float32pow10", "internal/strconv.uint64pow10", "unicode/utf8.acceptRanges", "strconv.ErrRange", "strconv.ErrSyntax", "encoding/hex.ErrLength", "given.example/pub-foolscap/pub/pdfcpu/pkg/pdfcpu/model.ErrDictionaryCorrupt", "given.example/pub-foolscap/pub/pdfcpu/pkg/pdfcpu/model.errArrayCorrupt", "given.example/pub-foolscap/pub/pdfcpu/pkg/pdfcpu/model.errArrayNotTerminated", "given.example/pub-foolscap/pub/pdfcpu/pkg/pdfcpu/model.errDictionaryNotTerminated", "given.example/pub-foolscap/pub/pdfcpu/pkg/pdfcpu/model.errHexLiteralCorrupt", "given.example/pub-foolscap/pub/pdfcpu/pkg/pdfcpu/model.errHexLiteralNotTerminated", "given.example/pub-foolscap/pub/pdfcpu/pkg/pdfcpu/model.errNameObjectCorrupt", "given.example/pub-foolscap/pub/pdfcpu/pkg/pdfcpu/model.errNoArray", "given.example/pub-foolscap/pub/pdfcpu/pkg/pdfcpu/model.errNoDictionary", "given.example/pub-foolscap/pub/pdfcpu/pkg/pdfcpu/model.errStringLiteralCorrupt", "given.example/pub-foolscap/pub/pdfcpu/pkg/pdfcpu/model.errBufNotAvailable", "given.example/pub-foolscap/pub/pdfcpu/pkg/pdfcpu/model.ErrMaxRecursionDepthExceeded"] (by kernel_rfl) (by kernel_rfl)
theorem fnParse_row_tie : Rows.fnParseRow.laidByTextAt .later Tryz.pinned [.data, .data, .widerDeep, .widerDeep, .data, .data, .data, .data, .data, .data, .sentinel, .sentinel, .sentinel, .sentinel, .sentinel, .sentinel, .sentinel, .sentinel, .sentinel, .sentinel, .sentinel, .sentinel, .sentinel, .sentinel, .sentinel, .pinned, .pinned, .pinned] true :=
  OpenClaim.laidByTextAt_pinned rfl rfl tie2 rfl rfl rfl rfl (fun y hy _e => by
    simp only [Rows.fnParseRow, List.zip_cons_cons, List.zip_nil_right, List.mem_cons, List.mem_nil_iff, or_false] at hy
    rcases hy with rfl | rfl | rfl | rfl | rfl | rfl | rfl | rfl | rfl | rfl | rfl | rfl | rfl | rfl | rfl | rfl | rfl | rfl | rfl | rfl | rfl | rfl | rfl | rfl | rfl | rfl | rfl | rfl
    · cases _e
    · cases _e
    · cases _e
    · cases _e
    · cases _e
    · cases _e
    · cases _e
    · cases _e
    · cases _e
    · cases _e
    · cases _e
    · cases _e
    · cases _e
    · cases _e
    · cases _e
    · cases _e
    · cases _e
    · cases _e
    · cases _e
    · cases _e
    · cases _e
    · cases _e
    · cases _e
    · cases _e
    · cases _e
    · exact ⟨pin_laid_internal_strconv_leftcheats, by kernel_rfl⟩
    · exact ⟨pin_laid_internal_strconv_pow10Tab, by kernel_rfl⟩
    · exact ⟨pin_laid_unicode_utf8_first, by kernel_rfl⟩) fits2
theorem fnParsePrint_row_tie : Rows.fnParsePrintRow.laidByTextAt .later Tryz.pinned [.data, .data, .widerDeep, .widerDeep, .data, .data, .data, .data, .data, .data, .sentinel, .sentinel, .sentinel, .sentinel, .sentinel, .sentinel, .sentinel, .sentinel, .sentinel, .sentinel, .sentinel, .sentinel, .sentinel, .sentinel, .sentinel, .pinned, .pinned, .pinned] true :=
  OpenClaim.laidByTextAt_pinned rfl rfl tie2 rfl rfl rfl rfl (fun y hy _e => by
    simp only [Rows.fnParsePrintRow, List.zip_cons_cons, List.zip_nil_right, List.mem_cons, List.mem_nil_iff, or_false] at hy
    rcases hy with rfl | rfl | rfl | rfl | rfl | rfl | rfl | rfl | rfl | rfl | rfl | rfl | rfl | rfl | rfl | rfl | rfl | rfl | rfl | rfl | rfl | rfl | rfl | rfl | rfl | rfl | rfl | rfl
    · cases _e
    · cases _e
    · cases _e
    · cases _e
    · cases _e
    · cases _e
    · cases _e
    · cases _e
    · cases _e
    · cases _e
    · cases _e
    · cases _e
    · cases _e
    · cases _e
    · cases _e
    · cases _e
    · cases _e
    · cases _e
    · cases _e
    · cases _e
    · cases _e
    · cases _e
    · cases _e
    · cases _e
    · cases _e
    · exact ⟨pin_laid_internal_strconv_leftcheats, by kernel_rfl⟩
    · exact ⟨pin_laid_internal_strconv_pow10Tab, by kernel_rfl⟩
    · exact ⟨pin_laid_unicode_utf8_first, by kernel_rfl⟩) fits2
theorem fnPrintUpto_row_tie : Rows.fnPrintUptoRow.laidByTextAt .later Tryz.pinned [.data, .data, .widerDeep, .widerDeep, .data, .data, .data, .data, .data, .sentinel, .sentinel, .pinned, .pinned] true :=
  OpenClaim.laidByTextAt_pinned rfl rfl tie rfl rfl rfl rfl (fun y hy _e => by
    simp only [Rows.fnPrintUptoRow, List.zip_cons_cons, List.zip_nil_right, List.mem_cons, List.mem_nil_iff, or_false] at hy
    rcases hy with rfl | rfl | rfl | rfl | rfl | rfl | rfl | rfl | rfl | rfl | rfl | rfl | rfl
    · cases _e
    · cases _e
    · cases _e
    · cases _e
    · cases _e
    · cases _e
    · cases _e
    · cases _e
    · cases _e
    · cases _e
    · cases _e
    · exact ⟨pin_laid_internal_strconv_leftcheats, by kernel_rfl⟩
    · exact ⟨pin_laid_internal_strconv_pow10Tab, by kernel_rfl⟩) fits1
theorem fnParseUpto_row_tie : Rows.fnParseUptoRow.laidByTextAt .later Tryz.pinned [.data, .data, .widerDeep, .widerDeep, .data, .data, .data, .data, .data, .data, .sentinel, .sentinel, .sentinel, .sentinel, .sentinel, .sentinel, .sentinel, .sentinel, .sentinel, .sentinel, .sentinel, .sentinel, .sentinel, .sentinel, .sentinel, .pinned, .pinned, .pinned] true :=
  OpenClaim.laidByTextAt_pinned rfl rfl tie2 rfl rfl rfl rfl (fun y hy _e => by
    simp only [Rows.fnParseUptoRow, List.zip_cons_cons, List.zip_nil_right, List.mem_cons, List.mem_nil_iff, or_false] at hy
    rcases hy with rfl | rfl | rfl | rfl | rfl | rfl | rfl | rfl | rfl | rfl | rfl | rfl | rfl | rfl | rfl | rfl | rfl | rfl | rfl | rfl | rfl | rfl | rfl | rfl | rfl | rfl | rfl | rfl
    · cases _e
    · cases _e
    · cases _e
    · cases _e
    · cases _e
    · cases _e
    · cases _e
    · cases _e
    · cases _e
    · cases _e
    · cases _e
    · cases _e
    · cases _e
    · cases _e
    · cases _e
    · cases _e
    · cases _e
    · cases _e
    · cases _e
    · cases _e
    · cases _e
    · cases _e
    · cases _e
    · cases _e
    · cases _e
    · exact ⟨pin_laid_internal_strconv_leftcheats, by kernel_rfl⟩
    · exact ⟨pin_laid_internal_strconv_pow10Tab, by kernel_rfl⟩
    · exact ⟨pin_laid_unicode_utf8_first, by kernel_rfl⟩) fits2
theorem fnParsePrintUpto_row_tie : Rows.fnParsePrintUptoRow.laidByTextAt .later Tryz.pinned [.data, .data, .widerDeep, .widerDeep, .data, .data, .data, .data, .data, .data, .sentinel, .sentinel, .sentinel, .sentinel, .sentinel, .sentinel, .sentinel, .sentinel, .sentinel, .sentinel, .sentinel, .sentinel, .sentinel, .sentinel, .sentinel, .pinned, .pinned, .pinned] true :=
  OpenClaim.laidByTextAt_pinned rfl rfl tie2 rfl rfl rfl rfl (fun y hy _e => by
    simp only [Rows.fnParsePrintUptoRow, List.zip_cons_cons, List.zip_nil_right, List.mem_cons, List.mem_nil_iff, or_false] at hy
    rcases hy with rfl | rfl | rfl | rfl | rfl | rfl | rfl | rfl | rfl | rfl | rfl | rfl | rfl | rfl | rfl | rfl | rfl | rfl | rfl | rfl | rfl | rfl | rfl | rfl | rfl | rfl | rfl | rfl
    · cases _e
    · cases _e
    · cases _e
    · cases _e
    · cases _e
    · cases _e
    · cases _e
    · cases _e
    · cases _e
    · cases _e
    · cases _e
    · cases _e
    · cases _e
    · cases _e
    · cases _e
    · cases _e
    · cases _e
    · cases _e
    · cases _e
    · cases _e
    · cases _e
    · cases _e
    · cases _e
    · cases _e
    · cases _e
    · exact ⟨pin_laid_internal_strconv_leftcheats, by kernel_rfl⟩
    · exact ⟨pin_laid_internal_strconv_pow10Tab, by kernel_rfl⟩
    · exact ⟨pin_laid_unicode_utf8_first, by kernel_rfl⟩) fits2
end Go.Proofs.YtfkecmlmnhbmoaaGreatDoor
