/-
  DERIVED. GIVEN WITH THE SEED: THE PROGRAM's TIES (one call each: nine closed facts by the kernel) AND EACH ROW's TIE, after the 31st guide's Derived/Test/Toyas{Tie, Card}.lean. No idea stands in it: it is a product of the set-up. Laid BY PROGRAM, IN A SANDBOX (cutbox-door.mjs). By AI agents, Wed Nov 11 2026. No macro, syntax, notation, axiom, sorry.
-/
import Derived.Test.YteohjnebbndcoaaDoorRows
import Derived.LaidByTextLater
import Derived.SevenTiedAt
import Derived.LaidSub
import Derived.LaidOnce
namespace Go.Proofs.YteohjnebbndcoaaDoor
open Go
set_option maxRecDepth 100000
theorem seatTie1 : Tryd.prog.laidByTextLater [("unicode/utf8.acceptRanges", Rows.laid_unicode_utf8_acceptRanges), ("unicode.White_Space", Rows.laid_unicode_White_Space)] [.data, .listed] true :=
  Program.laidByTextLater_by_one 172 8 257 (by kernel_rfl) (by kernel_rfl) (by kernel_rfl) (by kernel_rfl) (by kernel_rfl) (by kernel_rfl) (fun _ _ => by kernel_rfl)
theorem seatTie2 : Tryd.prog.laidByTextLater [("math/bits.deBruijn32tab", Rows.laid_math_bits_deBruijn32tab), ("math/bits.deBruijn64tab", Rows.laid_math_bits_deBruijn64tab), ("internal/strconv.uint64pow10", Rows.laid_internal_strconv_uint64pow10), ("unicode/utf8.acceptRanges", Rows.laid_unicode_utf8_acceptRanges), ("unicode.White_Space", Rows.laid_unicode_White_Space), ("strings.asciiSpace", Rows.laid_strings_asciiSpace), ("loop.example/pub-mediatypes/pub/gomime.errNoMediaType", Rows.laid_loop_example_pub_mediatypes_pub_gomime_errNoMediaType), ("loop.example/pub-mediatypes/pub/gomime.errNoSlashAfterFirstToken", Rows.laid_loop_example_pub_mediatypes_pub_gomime_errNoSlashAfterFirstToken), ("loop.example/pub-mediatypes/pub/gomime.errNoTokenAfterSlash", Rows.laid_loop_example_pub_mediatypes_pub_gomime_errNoTokenAfterSlash), ("loop.example/pub-mediatypes/pub/gomime.errUnexpectedContentAfterMediaSubtype", Rows.laid_loop_example_pub_mediatypes_pub_gomime_errUnexpectedContentAfterMediaSubtype), ("loop.example/pub-mediatypes/pub/gomime.ErrInvalidMediaParameter", Rows.laid_loop_example_pub_mediatypes_pub_gomime_ErrInvalidMediaParameter), ("loop.example/pub-mediatypes/pub/gomime.errDuplicateParamName", Rows.laid_loop_example_pub_mediatypes_pub_gomime_errDuplicateParamName)] [.data, .data, .data, .data, .listed, .data, .sentinel, .sentinel, .sentinel, .sentinel, .sentinel, .sentinel] true :=
  Program.laidByTextLater_by_one 172 8 257 (by kernel_rfl) (by kernel_rfl) (by kernel_rfl) (by kernel_rfl) (by kernel_rfl) (by kernel_rfl) (fun _ _ => by kernel_rfl)
theorem pin_laid_unicode_CaseRanges : Tryd.pinned.checked.prog.pinnedFits "unicode.CaseRanges" = true := by kernel_rfl
theorem pin_laid_unicode_utf8_first : Tryd.pinned.checked.prog.pinnedFits "unicode/utf8.first" = true := by kernel_rfl
theorem noOwnUnsafe : Tryd.pinned.checked.prog.headLifts.contains "ownunsafe" = false := by kernel_rfl
theorem fits1 : Tryd.pinned.checked.prog.listedFits [("unicode/utf8.acceptRanges", Rows.laid_unicode_utf8_acceptRanges), ("unicode.White_Space", Rows.laid_unicode_White_Space), ("unicode.CaseRanges", Rows.laid_unicode_CaseRanges), ("unicode/utf8.first", Rows.laid_unicode_utf8_first)] = true := by
  unfold Program.listedFits
  rw [noOwnUnsafe]
  kernel_rfl
theorem tie : Tryd.prog.laidByTextLater [("unicode/utf8.acceptRanges", Rows.laid_unicode_utf8_acceptRanges), ("unicode.White_Space", Rows.laid_unicode_White_Space)] [.data, .listed] true :=
  Program.laidByTextLater.sub seatTie1 ["unicode/utf8.acceptRanges", "unicode.White_Space"] (by kernel_rfl) (by kernel_rfl)
theorem fnExactParameter_row_tie : Rows.fnExactParameterRow.laidByTextAt .later Tryd.pinned [.data, .listed, .pinned, .pinned] true :=
  OpenClaim.laidByTextAt_pinned rfl rfl tie rfl rfl rfl rfl (fun y hy _e => by
    simp only [Rows.fnExactParameterRow, List.zip_cons_cons, List.zip_nil_right, List.mem_cons, List.mem_nil_iff, or_false] at hy
    rcases hy with rfl | rfl | rfl | rfl
    · cases _e
    · cases _e
    · exact ⟨pin_laid_unicode_CaseRanges, by kernel_rfl⟩
    · exact ⟨pin_laid_unicode_utf8_first, by kernel_rfl⟩) fits1
theorem fits2 : Tryd.pinned.checked.prog.listedFits [("math/bits.deBruijn32tab", Rows.laid_math_bits_deBruijn32tab), ("math/bits.deBruijn64tab", Rows.laid_math_bits_deBruijn64tab), ("internal/strconv.uint64pow10", Rows.laid_internal_strconv_uint64pow10), ("unicode/utf8.acceptRanges", Rows.laid_unicode_utf8_acceptRanges), ("unicode.White_Space", Rows.laid_unicode_White_Space), ("strings.asciiSpace", Rows.laid_strings_asciiSpace), ("loop.example/pub-mediatypes/pub/gomime.errNoMediaType", Rows.laid_loop_example_pub_mediatypes_pub_gomime_errNoMediaType), ("loop.example/pub-mediatypes/pub/gomime.errNoSlashAfterFirstToken", Rows.laid_loop_example_pub_mediatypes_pub_gomime_errNoSlashAfterFirstToken), ("loop.example/pub-mediatypes/pub/gomime.errNoTokenAfterSlash", Rows.laid_loop_example_pub_mediatypes_pub_gomime_errNoTokenAfterSlash), ("loop.example/pub-mediatypes/pub/gomime.errUnexpectedContentAfterMediaSubtype", Rows.laid_loop_example_pub_mediatypes_pub_gomime_errUnexpectedContentAfterMediaSubtype), ("loop.example/pub-mediatypes/pub/gomime.ErrInvalidMediaParameter", Rows.laid_loop_example_pub_mediatypes_pub_gomime_ErrInvalidMediaParameter), ("loop.example/pub-mediatypes/pub/gomime.errDuplicateParamName", Rows.laid_loop_example_pub_mediatypes_pub_gomime_errDuplicateParamName), ("unicode.CaseRanges", Rows.laid_unicode_CaseRanges), ("unicode/utf8.first", Rows.laid_unicode_utf8_first)] = true := by
  unfold Program.listedFits
  rw [noOwnUnsafe]
  kernel_rfl
theorem tie2 : Tryd.prog.laidByTextLater [("math/bits.deBruijn32tab", Rows.laid_math_bits_deBruijn32tab), ("math/bits.deBruijn64tab", Rows.laid_math_bits_deBruijn64tab), ("internal/strconv.uint64pow10", Rows.laid_internal_strconv_uint64pow10), ("unicode/utf8.acceptRanges", Rows.laid_unicode_utf8_acceptRanges), ("unicode.White_Space", Rows.laid_unicode_White_Space), ("strings.asciiSpace", Rows.laid_strings_asciiSpace), ("loop.example/pub-mediatypes/pub/gomime.errNoMediaType", Rows.laid_loop_example_pub_mediatypes_pub_gomime_errNoMediaType), ("loop.example/pub-mediatypes/pub/gomime.errNoSlashAfterFirstToken", Rows.laid_loop_example_pub_mediatypes_pub_gomime_errNoSlashAfterFirstToken), ("loop.example/pub-mediatypes/pub/gomime.errNoTokenAfterSlash", Rows.laid_loop_example_pub_mediatypes_pub_gomime_errNoTokenAfterSlash), ("loop.example/pub-mediatypes/pub/gomime.errUnexpectedContentAfterMediaSubtype", Rows.laid_loop_example_pub_mediatypes_pub_gomime_errUnexpectedContentAfterMediaSubtype), ("loop.example/pub-mediatypes/pub/gomime.ErrInvalidMediaParameter", Rows.laid_loop_example_pub_mediatypes_pub_gomime_ErrInvalidMediaParameter), ("loop.example/pub-mediatypes/pub/gomime.errDuplicateParamName", Rows.laid_loop_example_pub_mediatypes_pub_gomime_errDuplicateParamName)] [.data, .data, .data, .data, .listed, .data, .sentinel, .sentinel, .sentinel, .sentinel, .sentinel, .sentinel] true :=
  Program.laidByTextLater.sub seatTie2 ["math/bits.deBruijn32tab", "math/bits.deBruijn64tab", "internal/strconv.uint64pow10", "unicode/utf8.acceptRanges", "unicode.White_Space", "strings.asciiSpace", "loop.example/pub-mediatypes/pub/gomime.errNoMediaType", "loop.example/pub-mediatypes/pub/gomime.errNoSlashAfterFirstToken", "loop.example/pub-mediatypes/pub/gomime.errNoTokenAfterSlash", "loop.example/pub-mediatypes/pub/gomime.errUnexpectedContentAfterMediaSubtype", "loop.example/pub-mediatypes/pub/gomime.ErrInvalidMediaParameter", "loop.example/pub-mediatypes/pub/gomime.errDuplicateParamName"] (by kernel_rfl) (by kernel_rfl)
theorem fnTwice_row_tie : Rows.fnTwiceRow.laidByTextAt .later Tryd.pinned [.data, .data, .data, .data, .listed, .data, .sentinel, .sentinel, .sentinel, .sentinel, .sentinel, .sentinel, .pinned, .pinned] true :=
  OpenClaim.laidByTextAt_pinned rfl rfl tie2 rfl rfl rfl rfl (fun y hy _e => by
    simp only [Rows.fnTwiceRow, List.zip_cons_cons, List.zip_nil_right, List.mem_cons, List.mem_nil_iff, or_false] at hy
    rcases hy with rfl | rfl | rfl | rfl | rfl | rfl | rfl | rfl | rfl | rfl | rfl | rfl | rfl | rfl
    · cases _e
    · cases _e
    · cases _e
    · cases _e
    · cases _e
    · cases _e
    · cases _e
    · cases _e
    · cases _e
    · cases _e
    · cases _e
    · cases _e
    · exact ⟨pin_laid_unicode_CaseRanges, by kernel_rfl⟩
    · exact ⟨pin_laid_unicode_utf8_first, by kernel_rfl⟩) fits2
theorem fnExactParameterUpto_row_tie : Rows.fnExactParameterUptoRow.laidByTextAt .later Tryd.pinned [.data, .listed, .pinned, .pinned] true :=
  OpenClaim.laidByTextAt_pinned rfl rfl tie rfl rfl rfl rfl (fun y hy _e => by
    simp only [Rows.fnExactParameterUptoRow, List.zip_cons_cons, List.zip_nil_right, List.mem_cons, List.mem_nil_iff, or_false] at hy
    rcases hy with rfl | rfl | rfl | rfl
    · cases _e
    · cases _e
    · exact ⟨pin_laid_unicode_CaseRanges, by kernel_rfl⟩
    · exact ⟨pin_laid_unicode_utf8_first, by kernel_rfl⟩) fits1
theorem fnTwiceUpto_row_tie : Rows.fnTwiceUptoRow.laidByTextAt .later Tryd.pinned [.data, .data, .data, .data, .listed, .data, .sentinel, .sentinel, .sentinel, .sentinel, .sentinel, .sentinel, .pinned, .pinned] true :=
  OpenClaim.laidByTextAt_pinned rfl rfl tie2 rfl rfl rfl rfl (fun y hy _e => by
    simp only [Rows.fnTwiceUptoRow, List.zip_cons_cons, List.zip_nil_right, List.mem_cons, List.mem_nil_iff, or_false] at hy
    rcases hy with rfl | rfl | rfl | rfl | rfl | rfl | rfl | rfl | rfl | rfl | rfl | rfl | rfl | rfl
    · cases _e
    · cases _e
    · cases _e
    · cases _e
    · cases _e
    · cases _e
    · cases _e
    · cases _e
    · cases _e
    · cases _e
    · cases _e
    · cases _e
    · exact ⟨pin_laid_unicode_CaseRanges, by kernel_rfl⟩
    · exact ⟨pin_laid_unicode_utf8_first, by kernel_rfl⟩) fits2
end Go.Proofs.YteohjnebbndcoaaDoor
