/-
  No cell of these rows narrows 'for every input' (looked for: loops, veiled, ifaces, maps, wideKeys, modest, calm, conditions, laid).
  DERIVED. THE GIVEN ROWS OF THIS SEAT. 3 by the template 'for every input the law returns true; each argument reads behind the call as it read before'; 0 by the template 'total and deterministic' (their statements: YtkhnkemmkedfcaaTotals.lean).
  GIVEN WITH THE SEED: the statements are not yours to turn. If you find one false, say at which input.
  Laid BY PROGRAM, IN A SANDBOX (cutbox-rows.mjs): the forced cells as the released guide's own fill.sh prints them over the translation 1b608c4c7a14e02b… (all of the seat's roots in one cut). By AI agents, Wed Nov 11 2026. No macro, syntax, notation, axiom, sorry.
-/
import Derived.Test.YtkhnkemmkedfcaaChecked
import GoSem.Claim
import GoSem.ClaimJoined
import GoSem.ClaimMapViews
import Derived.JoinedTies
import Derived.KernelRfl
namespace Go.Proofs.Ytkhnkemmkedfcaa
/- THE CELL 'sum', in the pinned program and in every row, IS THE sha256 OF THE DUMP (.gsa) THAT YtkhnkemmkedfcaaProg.lean LOADS. Nothing in Lean hashes anything: it is a label: what it is worth is what the hold of that sum in a sandbox is worth. -/
noncomputable def Try.pinned : Pinned := { name := "ytkhnkemmkedfcaa", sum := "1b608c4c7a14e02b2fea2600eec34eff26f5d886a8526ca7a596137c53d70e06", checked := Try.checked }
namespace Rows
def none {H : Type} : Left H := { results := [], args := [] }

/-- 'laws.FnEscapeString': WHATEVER THE INPUT: true; the input reads as it did. -/
def fnEscapeStringSpec : ChangeSpec := { name := "fnEscapeString", fn := fun _ => fun
  | [d1, d2] => { results := [.lit (.bool true)], args := [d1, d2] }
  | _ => none }
def fnEscapeStringRow : OpenClaim := { program := "ytkhnkemmkedfcaa", sum := "1b608c4c7a14e02b2fea2600eec34eff26f5d886a8526ca7a596137c53d70e06", func := "given.example/pub-frisket/laws.FnEscapeString", spec := "fnEscapeString", inPlace := ["internal/abi.NoEscape"], apart := false }
def FnEscapeStringSaid : Prop := fnEscapeStringRow.holds Try.pinned (OpenSpec.ofChange fnEscapeStringSpec)

/-- ITS FALSE NEIGHBOUR: 'it returns false'. Refute it at one input. -/
def fnEscapeStringWrong : ChangeSpec := { name := "fnEscapeString", fn := fun _ => fun
  | [d1, d2] => { results := [.lit (.bool false)], args := [d1, d2] }
  | _ => none }
def FnEscapeStringWrongFalsely : Prop := fnEscapeStringRow.holds Try.pinned (OpenSpec.ofChange fnEscapeStringWrong)

/-- 'laws.FnToInt32': WHATEVER THE INPUT: true; the input reads as it did. -/
def fnToInt32Spec : ChangeSpec := { name := "fnToInt32", fn := fun _ => fun
  | [d] => { results := [.lit (.bool true)], args := [d] }
  | _ => none }
def fnToInt32Row : OpenClaim := { program := "ytkhnkemmkedfcaa", sum := "1b608c4c7a14e02b2fea2600eec34eff26f5d886a8526ca7a596137c53d70e06", func := "given.example/pub-frisket/laws.FnToInt32", spec := "fnToInt32", inPlace := ["math.Float64bits", "math.Float64frombits"], apart := false }
def FnToInt32Said : Prop := fnToInt32Row.holds Try.pinned (OpenSpec.ofChange fnToInt32Spec)

/-- ITS FALSE NEIGHBOUR: 'it returns false'. Refute it at one input. -/
def fnToInt32Wrong : ChangeSpec := { name := "fnToInt32", fn := fun _ => fun
  | [d] => { results := [.lit (.bool false)], args := [d] }
  | _ => none }
def FnToInt32WrongFalsely : Prop := fnToInt32Row.holds Try.pinned (OpenSpec.ofChange fnToInt32Wrong)

/-- 'laws.FnQuoteJSON': WHATEVER THE INPUT: true; the input reads as it did. -/
def fnQuoteJSONSpec : ChangeSpec := { name := "fnQuoteJSON", fn := fun _ => fun
  | [d1, d2] => { results := [.lit (.bool true)], args := [d1, d2] }
  | _ => none }
def fnQuoteJSONRow : OpenClaim := { program := "ytkhnkemmkedfcaa", sum := "1b608c4c7a14e02b2fea2600eec34eff26f5d886a8526ca7a596137c53d70e06", func := "given.example/pub-frisket/laws.FnQuoteJSON", spec := "fnQuoteJSON", apart := false }
def FnQuoteJSONSaid : Prop := fnQuoteJSONRow.holds Try.pinned (OpenSpec.ofChange fnQuoteJSONSpec)

/-- ITS FALSE NEIGHBOUR: 'it returns false'. Refute it at one input. -/
def fnQuoteJSONWrong : ChangeSpec := { name := "fnQuoteJSON", fn := fun _ => fun
  | [d1, d2] => { results := [.lit (.bool false)], args := [d1, d2] }
  | _ => none }
def FnQuoteJSONWrongFalsely : Prop := fnQuoteJSONRow.holds Try.pinned (OpenSpec.ofChange fnQuoteJSONWrong)

/- THE SECOND FORM. 'bulk': how many values and letters a reading holds, each counted each time it is reached (what is shared counts as often as it is met; a slice's spare places count too). A statement '..UptoSaid' is the law's where the arguments, and the package variables that the reading takes, are together of bulk at most 1048576: NARROWER than '..Said'. Prove '..Said' where nothing that the law and all that it calls make is longer than what came in: it says more and counts as full. Else prove '..UptoSaid'. A law counts once. -/
mutual
def uptoBulk {H : Type} : DataW H → Nat
  | .lit (.string bytes) => bytes.length + 1
  | .lit _ => 1
  | .nil => 1
  | .ptr d => uptoBulk d + 1
  | .slice elems spare => uptoBulkAll elems + uptoBulkAll spare + 1
  | .agg parts => uptoBulkAll parts + 1
  | .iface _ d => uptoBulk d + 1
  | .map entries => uptoBulkEntries entries + 1
  | .held _ => 1
def uptoBulkAll {H : Type} : List (DataW H) → Nat
  | [] => 0
  | d :: r => uptoBulk d + uptoBulkAll r
def uptoBulkEntries {H : Type} : List (Lit × DataW H) → Nat
  | [] => 0
  | x :: r => uptoBulkEntry x + uptoBulkEntries r
def uptoBulkEntry {H : Type} : Lit × DataW H → Nat
  | (.string bytes, d) => bytes.length + uptoBulk d + 1
  | (_, d) => uptoBulk d + 1
 end
def uptoSmall : (H : Type) → List (DataW H) → Bool := fun _ ds => decide (uptoBulkAll ds ≤ 1048576)
def OpenSpec.upto (s : _root_.Go.ChangeSpec) : _root_.Go.OpenSpec := { _root_.Go.OpenSpec.ofChange s with cond := some uptoSmall }

/-- 'laws.FnEscapeString', WHERE WHAT IT READS IS OF BULK AT MOST 1048576: true; the input reads as it did. -/
def fnEscapeStringUptoRow : OpenClaim := { program := "ytkhnkemmkedfcaa", sum := "1b608c4c7a14e02b2fea2600eec34eff26f5d886a8526ca7a596137c53d70e06", func := "given.example/pub-frisket/laws.FnEscapeString", spec := "fnEscapeString", inPlace := ["internal/abi.NoEscape"], apart := false, narrowed := true }
def FnEscapeStringUptoSaid : Prop := fnEscapeStringUptoRow.holds Try.pinned (OpenSpec.upto fnEscapeStringSpec)

/-- 'laws.FnToInt32', WHERE WHAT IT READS IS OF BULK AT MOST 1048576: true; the input reads as it did. -/
def fnToInt32UptoRow : OpenClaim := { program := "ytkhnkemmkedfcaa", sum := "1b608c4c7a14e02b2fea2600eec34eff26f5d886a8526ca7a596137c53d70e06", func := "given.example/pub-frisket/laws.FnToInt32", spec := "fnToInt32", inPlace := ["math.Float64bits", "math.Float64frombits"], apart := false, narrowed := true }
def FnToInt32UptoSaid : Prop := fnToInt32UptoRow.holds Try.pinned (OpenSpec.upto fnToInt32Spec)

/-- 'laws.FnQuoteJSON', WHERE WHAT IT READS IS OF BULK AT MOST 1048576: true; the input reads as it did. -/
def fnQuoteJSONUptoRow : OpenClaim := { program := "ytkhnkemmkedfcaa", sum := "1b608c4c7a14e02b2fea2600eec34eff26f5d886a8526ca7a596137c53d70e06", func := "given.example/pub-frisket/laws.FnQuoteJSON", spec := "fnQuoteJSON", apart := false, narrowed := true }
def FnQuoteJSONUptoSaid : Prop := fnQuoteJSONUptoRow.holds Try.pinned (OpenSpec.upto fnQuoteJSONSpec)

end Rows
end Go.Proofs.Ytkhnkemmkedfcaa
