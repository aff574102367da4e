/-
  NARROWER THAN 'FOR EVERY INPUT', by the rows' own cells (each row's printed sentence says how): FnReserved: maps, laid.
  DERIVED. THE GIVEN ROWS OF THIS SEAT. 1 by the template 'for every input the law returns true; each argument reads behind the call as it read before'; 0 by the template 'total and deterministic' (their statements: YtofdoaollanbpaaDoorTotals.lean).
  GIVEN WITH THE SEED: the statements are not yours to turn. If you find one false, say at which input.
  Laid BY PROGRAM, IN A SANDBOX (cutbox-rows.mjs): the forced cells as the released guide's own fill.sh prints them over the translation fccca128fb124160… (all of the seat's roots in one cut). By AI agents, Wed Nov 11 2026. No macro, syntax, notation, axiom, sorry.
-/
import Derived.Test.YtofdoaollanbpaaDoorChecked
import GoSem.Claim
import GoSem.ClaimJoined
import GoSem.ClaimMapViews
import Derived.JoinedTies
import Derived.KernelRfl
namespace Go.Proofs.YtofdoaollanbpaaDoor
/- THE CELL 'sum', in the pinned program and in every row, IS THE sha256 OF THE DUMP (.gsa) THAT YtofdoaollanbpaaDoorProg.lean LOADS. Nothing in Lean hashes anything: it is a label: what it is worth is what the hold of that sum in a sandbox is worth. -/
noncomputable def Tryd.pinned : Pinned := { name := "ytofdoaollanbpaadoor", sum := "fccca128fb1241609b9b01e7101624fcd4bf174ac257fb34c5643638533986f5", checked := Tryd.checked }
namespace Rows
def none {H : Type} : Left H := { results := [], args := [] }

/- WHAT THE LISTED PACKAGE-LEVEL VARIABLES READ AS WHEN THE CALL BEGINS. Each datum BY PROGRAM (the guide's laid-datum.mjs) off the statement by which the dump's own 'gosem.cut.vars' lays the variable. In a bare row this is a premise. The card (YtofdoaollanbpaaDoorCards.lean) ties it to the program's text. -/
def laid_given_example_pub_frisket_pub_esbuild_inner_ast_InvalidRef {H : Type} : DataW H := .agg [.lit (.int .u32 4294967295), .lit (.int .u32 4294967295)]
def laid_given_example_pub_frisket_pub_esbuild_inner_js_lexer_Keywords {H : Type} : DataW H := .map [(.string [98, 114, 101, 97, 107], .lit (.int .u8 71)), (.string [99, 97, 115, 101], .lit (.int .u8 72)), (.string [99, 97, 116, 99, 104], .lit (.int .u8 73)), (.string [99, 108, 97, 115, 115], .lit (.int .u8 74)), (.string [99, 111, 110, 115, 116], .lit (.int .u8 75)), (.string [99, 111, 110, 116, 105, 110, 117, 101], .lit (.int .u8 76)), (.string [100, 101, 98, 117, 103, 103, 101, 114], .lit (.int .u8 77)), (.string [100, 101, 102, 97, 117, 108, 116], .lit (.int .u8 78)), (.string [100, 101, 108, 101, 116, 101], .lit (.int .u8 79)), (.string [100, 111], .lit (.int .u8 80)), (.string [101, 108, 115, 101], .lit (.int .u8 81)), (.string [101, 110, 117, 109], .lit (.int .u8 82)), (.string [101, 120, 112, 111, 114, 116], .lit (.int .u8 83)), (.string [101, 120, 116, 101, 110, 100, 115], .lit (.int .u8 84)), (.string [102, 97, 108, 115, 101], .lit (.int .u8 85)), (.string [102, 105, 110, 97, 108, 108, 121], .lit (.int .u8 86)), (.string [102, 111, 114], .lit (.int .u8 87)), (.string [102, 117, 110, 99, 116, 105, 111, 110], .lit (.int .u8 88)), (.string [105, 102], .lit (.int .u8 89)), (.string [105, 109, 112, 111, 114, 116], .lit (.int .u8 90)), (.string [105, 110], .lit (.int .u8 91)), (.string [105, 110, 115, 116, 97, 110, 99, 101, 111, 102], .lit (.int .u8 92)), (.string [110, 101, 119], .lit (.int .u8 93)), (.string [110, 117, 108, 108], .lit (.int .u8 94)), (.string [114, 101, 116, 117, 114, 110], .lit (.int .u8 95)), (.string [115, 117, 112, 101, 114], .lit (.int .u8 96)), (.string [115, 119, 105, 116, 99, 104], .lit (.int .u8 97)), (.string [116, 104, 105, 115], .lit (.int .u8 98)), (.string [116, 104, 114, 111, 119], .lit (.int .u8 99)), (.string [116, 114, 117, 101], .lit (.int .u8 100)), (.string [116, 114, 121], .lit (.int .u8 101)), (.string [116, 121, 112, 101, 111, 102], .lit (.int .u8 102)), (.string [118, 97, 114], .lit (.int .u8 103)), (.string [118, 111, 105, 100], .lit (.int .u8 104)), (.string [119, 104, 105, 108, 101], .lit (.int .u8 105)), (.string [119, 105, 116, 104], .lit (.int .u8 106))]
def laid_given_example_pub_frisket_pub_esbuild_inner_js_lexer_StrictModeReservedWords {H : Type} : DataW H := .map [(.string [105, 109, 112, 108, 101, 109, 101, 110, 116, 115], .lit (.bool true)), (.string [105, 110, 116, 101, 114, 102, 97, 99, 101], .lit (.bool true)), (.string [108, 101, 116], .lit (.bool true)), (.string [112, 97, 99, 107, 97, 103, 101], .lit (.bool true)), (.string [112, 114, 105, 118, 97, 116, 101], .lit (.bool true)), (.string [112, 114, 111, 116, 101, 99, 116, 101, 100], .lit (.bool true)), (.string [112, 117, 98, 108, 105, 99], .lit (.bool true)), (.string [115, 116, 97, 116, 105, 99], .lit (.bool true)), (.string [121, 105, 101, 108, 100], .lit (.bool true))]

/-- 'laws.FnReserved': WHATEVER THE INPUT: true; the input reads as it did. -/
def fnReservedSpec : ChangeSpec := { name := "fnReserved", vars := ["given.example/pub-frisket/pub/esbuild/inner/ast.InvalidRef", "given.example/pub-frisket/pub/esbuild/inner/js_lexer.Keywords", "given.example/pub-frisket/pub/esbuild/inner/js_lexer.StrictModeReservedWords"], fn := fun _ => fun
  | [d1, d2, g1, g2, g3] => { results := [.lit (.bool true)], args := [d1, d2], vars := [g1, g2, g3] }
  | _ => none }
def fnReservedRow : OpenClaim := { program := "ytofdoaollanbpaadoor", sum := "fccca128fb1241609b9b01e7101624fcd4bf174ac257fb34c5643638533986f5", func := "given.example/pub-frisket/laws.FnReserved", spec := "fnReserved", unfollowed := true, recurses := true, named := ["given.example/pub-frisket/pub/esbuild/inner/ast.InvalidRef", "given.example/pub-frisket/pub/esbuild/inner/js_lexer.Keywords", "given.example/pub-frisket/pub/esbuild/inner/js_lexer.StrictModeReservedWords"], maps := true, apart := false, laid := [("given.example/pub-frisket/pub/esbuild/inner/ast.InvalidRef", laid_given_example_pub_frisket_pub_esbuild_inner_ast_InvalidRef), ("given.example/pub-frisket/pub/esbuild/inner/js_lexer.Keywords", laid_given_example_pub_frisket_pub_esbuild_inner_js_lexer_Keywords), ("given.example/pub-frisket/pub/esbuild/inner/js_lexer.StrictModeReservedWords", laid_given_example_pub_frisket_pub_esbuild_inner_js_lexer_StrictModeReservedWords)] }
def FnReservedSaid : Prop := fnReservedRow.holds Tryd.pinned (OpenSpec.ofChange fnReservedSpec)

/-- ITS FALSE NEIGHBOUR: 'it returns false'. Refute it at one input. -/
def fnReservedWrong : ChangeSpec := { name := "fnReserved", vars := ["given.example/pub-frisket/pub/esbuild/inner/ast.InvalidRef", "given.example/pub-frisket/pub/esbuild/inner/js_lexer.Keywords", "given.example/pub-frisket/pub/esbuild/inner/js_lexer.StrictModeReservedWords"], fn := fun _ => fun
  | [d1, d2, g1, g2, g3] => { results := [.lit (.bool false)], args := [d1, d2], vars := [g1, g2, g3] }
  | _ => none }
def FnReservedWrongFalsely : Prop := fnReservedRow.holds Tryd.pinned (OpenSpec.ofChange fnReservedWrong)

/- THE SECOND FORM. 'bulk': how many values and letters a reading holds, each counted each time it is reached (what is shared counts as often as it is met; a slice's spare places count too). A statement '..UptoSaid' is the law's where the arguments, and the package variables that the reading takes, are together of bulk at most 1048576: NARROWER than '..Said'. Prove '..Said' where nothing that the law and all that it calls make is longer than what came in: it says more and counts as full. Else prove '..UptoSaid'. A law counts once. -/
mutual
def uptoBulk {H : Type} : DataW H → Nat
  | .lit (.string bytes) => bytes.length + 1
  | .lit _ => 1
  | .nil => 1
  | .ptr d => uptoBulk d + 1
  | .slice elems spare => uptoBulkAll elems + uptoBulkAll spare + 1
  | .agg parts => uptoBulkAll parts + 1
  | .iface _ d => uptoBulk d + 1
  | .map entries => uptoBulkEntries entries + 1
  | .held _ => 1
def uptoBulkAll {H : Type} : List (DataW H) → Nat
  | [] => 0
  | d :: r => uptoBulk d + uptoBulkAll r
def uptoBulkEntries {H : Type} : List (Lit × DataW H) → Nat
  | [] => 0
  | x :: r => uptoBulkEntry x + uptoBulkEntries r
def uptoBulkEntry {H : Type} : Lit × DataW H → Nat
  | (.string bytes, d) => bytes.length + uptoBulk d + 1
  | (_, d) => uptoBulk d + 1
 end
def uptoSmall : (H : Type) → List (DataW H) → Bool := fun _ ds => decide (uptoBulkAll ds ≤ 1048576)
def OpenSpec.upto (s : _root_.Go.ChangeSpec) : _root_.Go.OpenSpec := { _root_.Go.OpenSpec.ofChange s with cond := some uptoSmall }

/-- 'laws.FnReserved', WHERE WHAT IT READS IS OF BULK AT MOST 1048576: true; the input reads as it did. -/
def fnReservedUptoRow : OpenClaim := { program := "ytofdoaollanbpaadoor", sum := "fccca128fb1241609b9b01e7101624fcd4bf174ac257fb34c5643638533986f5", func := "given.example/pub-frisket/laws.FnReserved", spec := "fnReserved", unfollowed := true, recurses := true, named := ["given.example/pub-frisket/pub/esbuild/inner/ast.InvalidRef", "given.example/pub-frisket/pub/esbuild/inner/js_lexer.Keywords", "given.example/pub-frisket/pub/esbuild/inner/js_lexer.StrictModeReservedWords"], maps := true, apart := false, laid := [("given.example/pub-frisket/pub/esbuild/inner/ast.InvalidRef", laid_given_example_pub_frisket_pub_esbuild_inner_ast_InvalidRef), ("given.example/pub-frisket/pub/esbuild/inner/js_lexer.Keywords", laid_given_example_pub_frisket_pub_esbuild_inner_js_lexer_Keywords), ("given.example/pub-frisket/pub/esbuild/inner/js_lexer.StrictModeReservedWords", laid_given_example_pub_frisket_pub_esbuild_inner_js_lexer_StrictModeReservedWords)], narrowed := true }
def FnReservedUptoSaid : Prop := fnReservedUptoRow.holds Tryd.pinned (OpenSpec.upto fnReservedSpec)

end Rows
end Go.Proofs.YtofdoaollanbpaaDoor
