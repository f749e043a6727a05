/-
  DERIVED. GIVEN WITH THE SEED: THE PROGRAM's TIES (one call each: nine closed facts by the kernel) AND EACH ROW's TIE, after the 31st guide's Derived/Test/Toyas{Tie, Card}.lean. No idea stands in it: it is a product of the set-up. Laid BY PROGRAM, IN A SANDBOX (cutbox-door.mjs). By AI agents, Wed Nov 11 2026. No macro, syntax, notation, axiom, sorry.
-/
import Derived.Test.YtbmmpnjpejamaaaDoorRows
import Derived.LaidByTextLater
import Derived.SevenTiedAt
import Derived.LaidSub
import Derived.LaidOnce
namespace Go.Proofs.YtbmmpnjpejamaaaDoor
open Go
set_option maxRecDepth 100000
theorem seatTie1 : Tryd.prog.laidByTextLater [("math/bits.deBruijn32tab", Rows.laid_math_bits_deBruijn32tab), ("math/bits.deBruijn64tab", Rows.laid_math_bits_deBruijn64tab), ("internal/strconv.uint64pow10", Rows.laid_internal_strconv_uint64pow10), ("unicode/utf8.acceptRanges", Rows.laid_unicode_utf8_acceptRanges), ("strconv.ErrRange", Rows.laid_strconv_ErrRange), ("strconv.ErrSyntax", Rows.laid_strconv_ErrSyntax), ("pub-tetrapla/pub/jsonpatch.ErrInvalid", Rows.laid_pub_tetrapla_pub_jsonpatch_ErrInvalid), ("pub-tetrapla/pub/jsonpatch.ErrExpectedObject", Rows.laid_pub_tetrapla_pub_jsonpatch_ErrExpectedObject), ("pub-tetrapla/pub/gjson.hexchars", Rows.laid_pub_tetrapla_pub_gjson_hexchars)] [.data, .data, .data, .data, .sentinel, .sentinel, .sentinel, .sentinel, .data] true :=
  Program.laidByTextLater_by_one 153 8 65 (by kernel_rfl) (by kernel_rfl) (by kernel_rfl) (by kernel_rfl) (by kernel_rfl) (by kernel_rfl) (fun _ _ => by kernel_rfl)
theorem pin_laid_strconv_isGraphic : Tryd.pinned.checked.prog.pinnedFits "strconv.isGraphic" = true := by kernel_rfl
theorem pin_laid_strconv_isNotPrint16 : Tryd.pinned.checked.prog.pinnedFits "strconv.isNotPrint16" = true := by kernel_rfl
theorem pin_laid_strconv_isNotPrint32 : Tryd.pinned.checked.prog.pinnedFits "strconv.isNotPrint32" = true := by kernel_rfl
theorem pin_laid_strconv_isPrint16 : Tryd.pinned.checked.prog.pinnedFits "strconv.isPrint16" = true := by kernel_rfl
theorem pin_laid_strconv_isPrint32 : Tryd.pinned.checked.prog.pinnedFits "strconv.isPrint32" = true := by kernel_rfl
theorem pin_laid_unicode_utf8_first : Tryd.pinned.checked.prog.pinnedFits "unicode/utf8.first" = true := by kernel_rfl
theorem noOwnUnsafe : Tryd.pinned.checked.prog.headLifts.contains "ownunsafe" = false := by kernel_rfl
theorem fits1 : Tryd.pinned.checked.prog.listedFits [("unicode/utf8.acceptRanges", Rows.laid_unicode_utf8_acceptRanges), ("strconv.isGraphic", Rows.laid_strconv_isGraphic), ("strconv.isNotPrint16", Rows.laid_strconv_isNotPrint16), ("strconv.isNotPrint32", Rows.laid_strconv_isNotPrint32), ("strconv.isPrint16", Rows.laid_strconv_isPrint16), ("strconv.isPrint32", Rows.laid_strconv_isPrint32), ("unicode/utf8.first", Rows.laid_unicode_utf8_first)] = true := by
  unfold Program.listedFits
  rw [noOwnUnsafe]
  kernel_rfl
theorem tie : Tryd.prog.laidByTextLater [("unicode/utf8.acceptRanges", Rows.laid_unicode_utf8_acceptRanges)] [.data] true :=
  Program.laidByTextLater.sub seatTie1 ["unicode/utf8.acceptRanges"] (by kernel_rfl) (by kernel_rfl)
theorem fnFjBuildBytes_row_tie : Rows.fnFjBuildBytesRow.laidByTextAt .later Tryd.pinned [.data, .pinned, .pinned, .pinned, .pinned, .pinned, .pinned] true :=
  OpenClaim.laidByTextAt_pinned rfl rfl tie rfl rfl rfl rfl (fun y hy _e => by
    simp only [Rows.fnFjBuildBytesRow, List.zip_cons_cons, List.zip_nil_right, List.mem_cons, List.mem_nil_iff, or_false] at hy
    rcases hy with rfl | rfl | rfl | rfl | rfl | rfl | rfl
    · cases _e
    · exact ⟨pin_laid_strconv_isGraphic, by kernel_rfl⟩
    · exact ⟨pin_laid_strconv_isNotPrint16, by kernel_rfl⟩
    · exact ⟨pin_laid_strconv_isNotPrint32, by kernel_rfl⟩
    · exact ⟨pin_laid_strconv_isPrint16, by kernel_rfl⟩
    · exact ⟨pin_laid_strconv_isPrint32, by kernel_rfl⟩
    · exact ⟨pin_laid_unicode_utf8_first, by kernel_rfl⟩) fits1
theorem tie2 : Tryd.prog.laidByTextLater [("math/bits.deBruijn32tab", Rows.laid_math_bits_deBruijn32tab), ("math/bits.deBruijn64tab", Rows.laid_math_bits_deBruijn64tab), ("internal/strconv.uint64pow10", Rows.laid_internal_strconv_uint64pow10), ("strconv.ErrRange", Rows.laid_strconv_ErrRange), ("strconv.ErrSyntax", Rows.laid_strconv_ErrSyntax)] [.data, .data, .data, .sentinel, .sentinel] true :=
  Program.laidByTextLater.sub seatTie1 ["math/bits.deBruijn32tab", "math/bits.deBruijn64tab", "internal/strconv.uint64pow10", "strconv.ErrRange", "strconv.ErrSyntax"] (by kernel_rfl) (by kernel_rfl)
theorem fnGjUnescapeAny_row_tie : Rows.fnGjUnescapeAnyRow.laidByTextAt .later Tryd.pinned [.data, .data, .data, .sentinel, .sentinel] true :=
  OpenClaim.laidByTextAt_later rfl rfl tie2 noOwnUnsafe
theorem fnFjNumberUint_row_tie : Rows.fnFjNumberUintRow.laidByTextAt .later Tryd.pinned [.data, .data, .data, .sentinel, .sentinel] true :=
  OpenClaim.laidByTextAt_later rfl rfl tie2 noOwnUnsafe
theorem fits3 : Tryd.pinned.checked.prog.listedFits [("math/bits.deBruijn32tab", Rows.laid_math_bits_deBruijn32tab), ("math/bits.deBruijn64tab", Rows.laid_math_bits_deBruijn64tab), ("internal/strconv.uint64pow10", Rows.laid_internal_strconv_uint64pow10), ("unicode/utf8.acceptRanges", Rows.laid_unicode_utf8_acceptRanges), ("strconv.isGraphic", Rows.laid_strconv_isGraphic), ("strconv.isNotPrint16", Rows.laid_strconv_isNotPrint16), ("strconv.isNotPrint32", Rows.laid_strconv_isNotPrint32), ("strconv.isPrint16", Rows.laid_strconv_isPrint16), ("strconv.isPrint32", Rows.laid_strconv_isPrint32), ("unicode/utf8.first", Rows.laid_unicode_utf8_first)] = true := by
  unfold Program.listedFits
  rw [noOwnUnsafe]
  kernel_rfl
theorem tie3 : Tryd.prog.laidByTextLater [("math/bits.deBruijn32tab", Rows.laid_math_bits_deBruijn32tab), ("math/bits.deBruijn64tab", Rows.laid_math_bits_deBruijn64tab), ("internal/strconv.uint64pow10", Rows.laid_internal_strconv_uint64pow10), ("unicode/utf8.acceptRanges", Rows.laid_unicode_utf8_acceptRanges)] [.data, .data, .data, .data] true :=
  Program.laidByTextLater.sub seatTie1 ["math/bits.deBruijn32tab", "math/bits.deBruijn64tab", "internal/strconv.uint64pow10", "unicode/utf8.acceptRanges"] (by kernel_rfl) (by kernel_rfl)
theorem fnFjBuildInt_row_tie : Rows.fnFjBuildIntRow.laidByTextAt .later Tryd.pinned [.data, .data, .data, .data, .pinned, .pinned, .pinned, .pinned, .pinned, .pinned] true :=
  OpenClaim.laidByTextAt_pinned rfl rfl tie3 rfl rfl rfl rfl (fun y hy _e => by
    simp only [Rows.fnFjBuildIntRow, List.zip_cons_cons, List.zip_nil_right, List.mem_cons, List.mem_nil_iff, or_false] at hy
    rcases hy with rfl | rfl | rfl | rfl | rfl | rfl | rfl | rfl | rfl | rfl
    · cases _e
    · cases _e
    · cases _e
    · cases _e
    · exact ⟨pin_laid_strconv_isGraphic, by kernel_rfl⟩
    · exact ⟨pin_laid_strconv_isNotPrint16, by kernel_rfl⟩
    · exact ⟨pin_laid_strconv_isNotPrint32, by kernel_rfl⟩
    · exact ⟨pin_laid_strconv_isPrint16, by kernel_rfl⟩
    · exact ⟨pin_laid_strconv_isPrint32, by kernel_rfl⟩
    · exact ⟨pin_laid_unicode_utf8_first, by kernel_rfl⟩) fits3
theorem tie4 : Tryd.prog.laidByTextLater [("pub-tetrapla/pub/jsonpatch.ErrInvalid", Rows.laid_pub_tetrapla_pub_jsonpatch_ErrInvalid), ("pub-tetrapla/pub/jsonpatch.ErrExpectedObject", Rows.laid_pub_tetrapla_pub_jsonpatch_ErrExpectedObject)] [.sentinel, .sentinel] true :=
  Program.laidByTextLater.sub seatTie1 ["pub-tetrapla/pub/jsonpatch.ErrInvalid", "pub-tetrapla/pub/jsonpatch.ErrExpectedObject"] (by kernel_rfl) (by kernel_rfl)
theorem fnPaGet_row_tie : Rows.fnPaGetRow.laidByTextAt .later Tryd.pinned [.sentinel, .sentinel] true :=
  OpenClaim.laidByTextAt_later rfl rfl tie4 noOwnUnsafe
theorem fits5 : Tryd.pinned.checked.prog.listedFits [("math/bits.deBruijn32tab", Rows.laid_math_bits_deBruijn32tab), ("math/bits.deBruijn64tab", Rows.laid_math_bits_deBruijn64tab), ("internal/strconv.uint64pow10", Rows.laid_internal_strconv_uint64pow10), ("unicode/utf8.acceptRanges", Rows.laid_unicode_utf8_acceptRanges), ("strconv.ErrRange", Rows.laid_strconv_ErrRange), ("strconv.ErrSyntax", Rows.laid_strconv_ErrSyntax), ("pub-tetrapla/pub/gjson.hexchars", Rows.laid_pub_tetrapla_pub_gjson_hexchars), ("unicode/utf8.first", Rows.laid_unicode_utf8_first)] = true := by
  unfold Program.listedFits
  rw [noOwnUnsafe]
  kernel_rfl
theorem tie5 : Tryd.prog.laidByTextLater [("math/bits.deBruijn32tab", Rows.laid_math_bits_deBruijn32tab), ("math/bits.deBruijn64tab", Rows.laid_math_bits_deBruijn64tab), ("internal/strconv.uint64pow10", Rows.laid_internal_strconv_uint64pow10), ("unicode/utf8.acceptRanges", Rows.laid_unicode_utf8_acceptRanges), ("strconv.ErrRange", Rows.laid_strconv_ErrRange), ("strconv.ErrSyntax", Rows.laid_strconv_ErrSyntax), ("pub-tetrapla/pub/gjson.hexchars", Rows.laid_pub_tetrapla_pub_gjson_hexchars)] [.data, .data, .data, .data, .sentinel, .sentinel, .data] true :=
  Program.laidByTextLater.sub seatTie1 ["math/bits.deBruijn32tab", "math/bits.deBruijn64tab", "internal/strconv.uint64pow10", "unicode/utf8.acceptRanges", "strconv.ErrRange", "strconv.ErrSyntax", "pub-tetrapla/pub/gjson.hexchars"] (by kernel_rfl) (by kernel_rfl)
theorem fnGjQuoteUnescape_row_tie : Rows.fnGjQuoteUnescapeRow.laidByTextAt .later Tryd.pinned [.data, .data, .data, .data, .sentinel, .sentinel, .data, .pinned] true :=
  OpenClaim.laidByTextAt_pinned rfl rfl tie5 rfl rfl rfl rfl (fun y hy _e => by
    simp only [Rows.fnGjQuoteUnescapeRow, List.zip_cons_cons, List.zip_nil_right, List.mem_cons, List.mem_nil_iff, or_false] at hy
    rcases hy with rfl | rfl | rfl | rfl | rfl | rfl | rfl | rfl
    · cases _e
    · cases _e
    · cases _e
    · cases _e
    · cases _e
    · cases _e
    · cases _e
    · exact ⟨pin_laid_unicode_utf8_first, by kernel_rfl⟩) fits5
theorem fnFjBuildBytesUpto_row_tie : Rows.fnFjBuildBytesUptoRow.laidByTextAt .later Tryd.pinned [.data, .pinned, .pinned, .pinned, .pinned, .pinned, .pinned] true :=
  OpenClaim.laidByTextAt_pinned rfl rfl tie rfl rfl rfl rfl (fun y hy _e => by
    simp only [Rows.fnFjBuildBytesUptoRow, List.zip_cons_cons, List.zip_nil_right, List.mem_cons, List.mem_nil_iff, or_false] at hy
    rcases hy with rfl | rfl | rfl | rfl | rfl | rfl | rfl
    · cases _e
    · exact ⟨pin_laid_strconv_isGraphic, by kernel_rfl⟩
    · exact ⟨pin_laid_strconv_isNotPrint16, by kernel_rfl⟩
    · exact ⟨pin_laid_strconv_isNotPrint32, by kernel_rfl⟩
    · exact ⟨pin_laid_strconv_isPrint16, by kernel_rfl⟩
    · exact ⟨pin_laid_strconv_isPrint32, by kernel_rfl⟩
    · exact ⟨pin_laid_unicode_utf8_first, by kernel_rfl⟩) fits1
theorem fnGjUnescapeAnyUpto_row_tie : Rows.fnGjUnescapeAnyUptoRow.laidByTextAt .later Tryd.pinned [.data, .data, .data, .sentinel, .sentinel] true :=
  OpenClaim.laidByTextAt_later rfl rfl tie2 noOwnUnsafe
theorem fnFjBuildIntUpto_row_tie : Rows.fnFjBuildIntUptoRow.laidByTextAt .later Tryd.pinned [.data, .data, .data, .data, .pinned, .pinned, .pinned, .pinned, .pinned, .pinned] true :=
  OpenClaim.laidByTextAt_pinned rfl rfl tie3 rfl rfl rfl rfl (fun y hy _e => by
    simp only [Rows.fnFjBuildIntUptoRow, List.zip_cons_cons, List.zip_nil_right, List.mem_cons, List.mem_nil_iff, or_false] at hy
    rcases hy with rfl | rfl | rfl | rfl | rfl | rfl | rfl | rfl | rfl | rfl
    · cases _e
    · cases _e
    · cases _e
    · cases _e
    · exact ⟨pin_laid_strconv_isGraphic, by kernel_rfl⟩
    · exact ⟨pin_laid_strconv_isNotPrint16, by kernel_rfl⟩
    · exact ⟨pin_laid_strconv_isNotPrint32, by kernel_rfl⟩
    · exact ⟨pin_laid_strconv_isPrint16, by kernel_rfl⟩
    · exact ⟨pin_laid_strconv_isPrint32, by kernel_rfl⟩
    · exact ⟨pin_laid_unicode_utf8_first, by kernel_rfl⟩) fits3
theorem fnFjNumberUintUpto_row_tie : Rows.fnFjNumberUintUptoRow.laidByTextAt .later Tryd.pinned [.data, .data, .data, .sentinel, .sentinel] true :=
  OpenClaim.laidByTextAt_later rfl rfl tie2 noOwnUnsafe
theorem fnPaGetUpto_row_tie : Rows.fnPaGetUptoRow.laidByTextAt .later Tryd.pinned [.sentinel, .sentinel] true :=
  OpenClaim.laidByTextAt_later rfl rfl tie4 noOwnUnsafe
theorem fnGjQuoteUnescapeUpto_row_tie : Rows.fnGjQuoteUnescapeUptoRow.laidByTextAt .later Tryd.pinned [.data, .data, .data, .data, .sentinel, .sentinel, .data, .pinned] true :=
  OpenClaim.laidByTextAt_pinned rfl rfl tie5 rfl rfl rfl rfl (fun y hy _e => by
    simp only [Rows.fnGjQuoteUnescapeUptoRow, List.zip_cons_cons, List.zip_nil_right, List.mem_cons, List.mem_nil_iff, or_false] at hy
    rcases hy with rfl | rfl | rfl | rfl | rfl | rfl | rfl | rfl
    · cases _e
    · cases _e
    · cases _e
    · cases _e
    · cases _e
    · cases _e
    · cases _e
    · exact ⟨pin_laid_unicode_utf8_first, by kernel_rfl⟩) fits5
end Go.Proofs.YtbmmpnjpejamaaaDoor
