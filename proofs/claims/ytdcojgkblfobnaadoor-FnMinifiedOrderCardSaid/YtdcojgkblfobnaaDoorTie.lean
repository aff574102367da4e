/-
  DERIVED. GIVEN WITH THE SEED: THE PROGRAM's TIES (one call each: nine closed facts by the kernel) AND EACH ROW's TIE, after the 31st guide's Derived/Test/Toyas{Tie, Card}.lean. No idea stands in it: it is a product of the set-up. Laid BY PROGRAM, IN A SANDBOX (cutbox-door.mjs). By AI agents, Wed Nov 11 2026. No macro, syntax, notation, axiom, sorry.
-/
import Derived.Test.YtdcojgkblfobnaaDoorRows
import Derived.LaidByTextLater
import Derived.SevenTiedAt
import Derived.LaidSub
import Derived.LaidOnce
namespace Go.Proofs.YtdcojgkblfobnaaDoor
open Go
set_option maxRecDepth 100000
theorem seatTie1 : Tryd.prog.laidByTextLater [("given.example/pub-frisket/pub/esbuild/inner/ast.InvalidRef", Rows.laid_given_example_pub_frisket_pub_esbuild_inner_ast_InvalidRef), ("given.example/pub-frisket/pub/esbuild/inner/ast.DefaultNameMinifierJS", Rows.laid_given_example_pub_frisket_pub_esbuild_inner_ast_DefaultNameMinifierJS)] [.data, .wider] true :=
  Program.laidByTextLater_by_one 19 8 3 (by kernel_rfl) (by kernel_rfl) (by kernel_rfl) (by kernel_rfl) (by kernel_rfl) (by kernel_rfl) (fun _ _ => by kernel_rfl)
theorem noOwnUnsafe : Tryd.pinned.checked.prog.headLifts.contains "ownunsafe" = false := by kernel_rfl
theorem tie : Tryd.prog.laidByTextLater [("given.example/pub-frisket/pub/esbuild/inner/ast.InvalidRef", Rows.laid_given_example_pub_frisket_pub_esbuild_inner_ast_InvalidRef)] [.data] true :=
  Program.laidByTextLater.sub seatTie1 ["given.example/pub-frisket/pub/esbuild/inner/ast.InvalidRef"] (by kernel_rfl) (by kernel_rfl)
theorem fnSlotSpace_row_tie : Rows.fnSlotSpaceRow.laidByTextAt .later Tryd.pinned [.data] true :=
  OpenClaim.laidByTextAt_later rfl rfl tie noOwnUnsafe
theorem tie2 : Tryd.prog.laidByTextLater [("given.example/pub-frisket/pub/esbuild/inner/ast.DefaultNameMinifierJS", Rows.laid_given_example_pub_frisket_pub_esbuild_inner_ast_DefaultNameMinifierJS)] [.wider] true :=
  Program.laidByTextLater.sub seatTie1 ["given.example/pub-frisket/pub/esbuild/inner/ast.DefaultNameMinifierJS"] (by kernel_rfl) (by kernel_rfl)
theorem fnMinifiedOrder_row_tie : Rows.fnMinifiedOrderRow.laidByTextAt .later Tryd.pinned [.wider] true :=
  OpenClaim.laidByTextAt_later rfl rfl tie2 noOwnUnsafe
theorem fnSlotSpaceUpto_row_tie : Rows.fnSlotSpaceUptoRow.laidByTextAt .later Tryd.pinned [.data] true :=
  OpenClaim.laidByTextAt_later rfl rfl tie noOwnUnsafe
theorem fnMinifiedOrderUpto_row_tie : Rows.fnMinifiedOrderUptoRow.laidByTextAt .later Tryd.pinned [.wider] true :=
  OpenClaim.laidByTextAt_later rfl rfl tie2 noOwnUnsafe
end Go.Proofs.YtdcojgkblfobnaaDoor
