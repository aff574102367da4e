/-
  DERIVED. GIVEN WITH THE SEED: THE PROGRAM's TIES (one call each: nine closed facts by the kernel) AND EACH ROW's TIE, after the 31st guide's Derived/Test/Toyas{Tie, Card}.lean. No idea stands in it: it is a product of the set-up. Laid BY PROGRAM, IN A SANDBOX (cutbox-door.mjs). By AI agents, Wed Nov 11 2026. No macro, syntax, notation, axiom, sorry.
-/
import Derived.Test.YtofdoaollanbpaaDoorRows
import Derived.LaidByTextLater
import Derived.SevenTiedAt
import Derived.LaidSub
import Derived.LaidOnce
namespace Go.Proofs.YtofdoaollanbpaaDoor
open Go
set_option maxRecDepth 100000
theorem seatTie1 : Tryd.prog.laidByTextLater [("given.example/pub-frisket/pub/esbuild/inner/ast.InvalidRef", Rows.laid_given_example_pub_frisket_pub_esbuild_inner_ast_InvalidRef), ("given.example/pub-frisket/pub/esbuild/inner/js_lexer.Keywords", Rows.laid_given_example_pub_frisket_pub_esbuild_inner_js_lexer_Keywords), ("given.example/pub-frisket/pub/esbuild/inner/js_lexer.StrictModeReservedWords", Rows.laid_given_example_pub_frisket_pub_esbuild_inner_js_lexer_StrictModeReservedWords)] [.data, .mapped, .mapped] true :=
  Program.laidByTextLater_by_one 249 8 3 (by kernel_rfl) (by kernel_rfl) (by kernel_rfl) (by kernel_rfl) (by kernel_rfl) (by kernel_rfl) (fun _ _ => by kernel_rfl)
theorem noOwnUnsafe : Tryd.pinned.checked.prog.headLifts.contains "ownunsafe" = false := by kernel_rfl
theorem tie : Tryd.prog.laidByTextLater [("given.example/pub-frisket/pub/esbuild/inner/ast.InvalidRef", Rows.laid_given_example_pub_frisket_pub_esbuild_inner_ast_InvalidRef), ("given.example/pub-frisket/pub/esbuild/inner/js_lexer.Keywords", Rows.laid_given_example_pub_frisket_pub_esbuild_inner_js_lexer_Keywords), ("given.example/pub-frisket/pub/esbuild/inner/js_lexer.StrictModeReservedWords", Rows.laid_given_example_pub_frisket_pub_esbuild_inner_js_lexer_StrictModeReservedWords)] [.data, .mapped, .mapped] true :=
  Program.laidByTextLater.sub seatTie1 ["given.example/pub-frisket/pub/esbuild/inner/ast.InvalidRef", "given.example/pub-frisket/pub/esbuild/inner/js_lexer.Keywords", "given.example/pub-frisket/pub/esbuild/inner/js_lexer.StrictModeReservedWords"] (by kernel_rfl) (by kernel_rfl)
theorem fnReserved_row_tie : Rows.fnReservedRow.laidByTextAt .later Tryd.pinned [.data, .mapped, .mapped] true :=
  OpenClaim.laidByTextAt_later rfl rfl tie noOwnUnsafe
theorem fnReservedUpto_row_tie : Rows.fnReservedUptoRow.laidByTextAt .later Tryd.pinned [.data, .mapped, .mapped] true :=
  OpenClaim.laidByTextAt_later rfl rfl tie noOwnUnsafe
end Go.Proofs.YtofdoaollanbpaaDoor
