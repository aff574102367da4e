/-
  DERIVED. GIVEN WITH THE SEED: THE PROGRAM's TIES (one call each: nine closed facts by the kernel) AND EACH ROW's TIE, after the 31st guide's Derived/Test/Toyas{Tie, Card}.lean. No idea stands in it: it is a product of the set-up. Laid BY PROGRAM, IN A SANDBOX (cutbox-door.mjs). By AI agents, Wed Nov 11 2026. No macro, syntax, notation, axiom, sorry.
-/
import Derived.Test.YtjhglhckdjnkgaaDoorRows
import Derived.LaidByTextLater
import Derived.SevenTiedAt
import Derived.LaidSub
import Derived.LaidOnce
namespace Go.Proofs.YtjhglhckdjnkgaaDoor
open Go
set_option maxRecDepth 100000
theorem seatTie1 : Tryd.prog.laidByTextLater [("math/bits.deBruijn32tab", Rows.laid_math_bits_deBruijn32tab), ("math/bits.deBruijn64tab", Rows.laid_math_bits_deBruijn64tab), ("internal/strconv.uint64pow10", Rows.laid_internal_strconv_uint64pow10), ("unicode/utf8.acceptRanges", Rows.laid_unicode_utf8_acceptRanges), ("given.example/pub-frisket/pub/esbuild/inner/ast.InvalidRef", Rows.laid_given_example_pub_frisket_pub_esbuild_inner_ast_InvalidRef), ("given.example/pub-frisket/pub/esbuild/inner/js_lexer.Keywords", Rows.laid_given_example_pub_frisket_pub_esbuild_inner_js_lexer_Keywords), ("given.example/pub-frisket/pub/esbuild/inner/js_lexer.StrictModeReservedWords", Rows.laid_given_example_pub_frisket_pub_esbuild_inner_js_lexer_StrictModeReservedWords)] [.data, .data, .data, .data, .data, .mapped, .mapped] true :=
  Program.laidByTextLater_by_one 274 8 65 (by kernel_rfl) (by kernel_rfl) (by kernel_rfl) (by kernel_rfl) (by kernel_rfl) (by kernel_rfl) (fun _ _ => by kernel_rfl)
theorem pin_laid_unicode_utf8_first : Tryd.pinned.checked.prog.pinnedFits "unicode/utf8.first" = true := by kernel_rfl
theorem noOwnUnsafe : Tryd.pinned.checked.prog.headLifts.contains "ownunsafe" = false := by kernel_rfl
theorem fits1 : Tryd.pinned.checked.prog.listedFits [("unicode/utf8.acceptRanges", Rows.laid_unicode_utf8_acceptRanges), ("unicode/utf8.first", Rows.laid_unicode_utf8_first)] = true := by
  unfold Program.listedFits
  rw [noOwnUnsafe]
  kernel_rfl
theorem tie : Tryd.prog.laidByTextLater [("unicode/utf8.acceptRanges", Rows.laid_unicode_utf8_acceptRanges)] [.data] true :=
  Program.laidByTextLater.sub seatTie1 ["unicode/utf8.acceptRanges"] (by kernel_rfl) (by kernel_rfl)
theorem fnAddOffset_row_tie : Rows.fnAddOffsetRow.laidByTextAt .later Tryd.pinned [.data, .pinned] true :=
  OpenClaim.laidByTextAt_pinned rfl rfl tie rfl rfl rfl rfl (fun y hy _e => by
    simp only [Rows.fnAddOffsetRow, List.zip_cons_cons, List.zip_nil_right, List.mem_cons, List.mem_nil_iff, or_false] at hy
    rcases hy with rfl | rfl
    · cases _e
    · exact ⟨pin_laid_unicode_utf8_first, by kernel_rfl⟩) fits1
theorem fnDataURL_row_tie : Rows.fnDataURLRow.laidByTextAt .later Tryd.pinned [.data, .pinned] true :=
  OpenClaim.laidByTextAt_pinned rfl rfl tie rfl rfl rfl rfl (fun y hy _e => by
    simp only [Rows.fnDataURLRow, List.zip_cons_cons, List.zip_nil_right, List.mem_cons, List.mem_nil_iff, or_false] at hy
    rcases hy with rfl | rfl
    · cases _e
    · exact ⟨pin_laid_unicode_utf8_first, by kernel_rfl⟩) fits1
theorem tie2 : Tryd.prog.laidByTextLater [("math/bits.deBruijn32tab", Rows.laid_math_bits_deBruijn32tab), ("math/bits.deBruijn64tab", Rows.laid_math_bits_deBruijn64tab), ("internal/strconv.uint64pow10", Rows.laid_internal_strconv_uint64pow10)] [.data, .data, .data] true :=
  Program.laidByTextLater.sub seatTie1 ["math/bits.deBruijn32tab", "math/bits.deBruijn64tab", "internal/strconv.uint64pow10"] (by kernel_rfl) (by kernel_rfl)
theorem fnNumberToString_row_tie : Rows.fnNumberToStringRow.laidByTextAt .later Tryd.pinned [.data, .data, .data] true :=
  OpenClaim.laidByTextAt_later rfl rfl tie2 noOwnUnsafe
theorem tie3 : Tryd.prog.laidByTextLater [("given.example/pub-frisket/pub/esbuild/inner/ast.InvalidRef", Rows.laid_given_example_pub_frisket_pub_esbuild_inner_ast_InvalidRef), ("given.example/pub-frisket/pub/esbuild/inner/js_lexer.Keywords", Rows.laid_given_example_pub_frisket_pub_esbuild_inner_js_lexer_Keywords), ("given.example/pub-frisket/pub/esbuild/inner/js_lexer.StrictModeReservedWords", Rows.laid_given_example_pub_frisket_pub_esbuild_inner_js_lexer_StrictModeReservedWords)] [.data, .mapped, .mapped] true :=
  Program.laidByTextLater.sub seatTie1 ["given.example/pub-frisket/pub/esbuild/inner/ast.InvalidRef", "given.example/pub-frisket/pub/esbuild/inner/js_lexer.Keywords", "given.example/pub-frisket/pub/esbuild/inner/js_lexer.StrictModeReservedWords"] (by kernel_rfl) (by kernel_rfl)
theorem fnReserved_row_tie : Rows.fnReservedRow.laidByTextAt .later Tryd.pinned [.data, .mapped, .mapped] true :=
  OpenClaim.laidByTextAt_later rfl rfl tie3 noOwnUnsafe
theorem fnAddOffsetUpto_row_tie : Rows.fnAddOffsetUptoRow.laidByTextAt .later Tryd.pinned [.data, .pinned] true :=
  OpenClaim.laidByTextAt_pinned rfl rfl tie rfl rfl rfl rfl (fun y hy _e => by
    simp only [Rows.fnAddOffsetUptoRow, List.zip_cons_cons, List.zip_nil_right, List.mem_cons, List.mem_nil_iff, or_false] at hy
    rcases hy with rfl | rfl
    · cases _e
    · exact ⟨pin_laid_unicode_utf8_first, by kernel_rfl⟩) fits1
theorem fnDataURLUpto_row_tie : Rows.fnDataURLUptoRow.laidByTextAt .later Tryd.pinned [.data, .pinned] true :=
  OpenClaim.laidByTextAt_pinned rfl rfl tie rfl rfl rfl rfl (fun y hy _e => by
    simp only [Rows.fnDataURLUptoRow, List.zip_cons_cons, List.zip_nil_right, List.mem_cons, List.mem_nil_iff, or_false] at hy
    rcases hy with rfl | rfl
    · cases _e
    · exact ⟨pin_laid_unicode_utf8_first, by kernel_rfl⟩) fits1
theorem fnNumberToStringUpto_row_tie : Rows.fnNumberToStringUptoRow.laidByTextAt .later Tryd.pinned [.data, .data, .data] true :=
  OpenClaim.laidByTextAt_later rfl rfl tie2 noOwnUnsafe
theorem fnReservedUpto_row_tie : Rows.fnReservedUptoRow.laidByTextAt .later Tryd.pinned [.data, .mapped, .mapped] true :=
  OpenClaim.laidByTextAt_later rfl rfl tie3 noOwnUnsafe
end Go.Proofs.YtjhglhckdjnkgaaDoor
