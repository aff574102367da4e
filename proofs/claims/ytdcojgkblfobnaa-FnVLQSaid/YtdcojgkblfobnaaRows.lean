/-
  No cell of these rows narrows 'for every input' (looked for: loops, veiled, ifaces, maps, wideKeys, modest, calm, conditions, laid).
  DERIVED. THE GIVEN ROWS OF THIS SEAT. 10 by the template 'for every input the law returns true; each argument reads behind the call as it read before'; 0 by the template 'total and deterministic' (their statements: YtdcojgkblfobnaaTotals.lean).
  GIVEN WITH THE SEED: the statements are not yours to turn. If you find one false, say at which input.
  Laid BY PROGRAM, IN A SANDBOX (cutbox-rows.mjs): the forced cells as the released guide's own fill.sh prints them over the translation 6558f99c07fba35e… (all of the seat's roots in one cut). By AI agents, Wed Nov 11 2026. No macro, syntax, notation, axiom, sorry.
-/
import Derived.Test.YtdcojgkblfobnaaChecked
import GoSem.Claim
import GoSem.ClaimJoined
import GoSem.ClaimMapViews
import Derived.JoinedTies
import Derived.KernelRfl
namespace Go.Proofs.Ytdcojgkblfobnaa
/- THE CELL 'sum', in the pinned program and in every row, IS THE sha256 OF THE DUMP (.gsa) THAT YtdcojgkblfobnaaProg.lean LOADS. Nothing in Lean hashes anything: it is a label: what it is worth is what the hold of that sum in a sandbox is worth. -/
noncomputable def Try.pinned : Pinned := { name := "ytdcojgkblfobnaa", sum := "6558f99c07fba35e44e14cb0793a76b9e04f3413946b2af4a7d00a1d5b6e6e3f", checked := Try.checked }
namespace Rows
def none {H : Type} : Left H := { results := [], args := [] }

/-- 'laws.FnAssigns': WHATEVER THE INPUT: true; the input reads as it did. -/
def fnAssignsSpec : ChangeSpec := { name := "fnAssigns", fn := fun _ => fun
  | [d] => { results := [.lit (.bool true)], args := [d] }
  | _ => none }
def fnAssignsRow : OpenClaim := { program := "ytdcojgkblfobnaa", sum := "6558f99c07fba35e44e14cb0793a76b9e04f3413946b2af4a7d00a1d5b6e6e3f", func := "given.example/pub-frisket/laws.FnAssigns", spec := "fnAssigns", apart := false }
def FnAssignsSaid : Prop := fnAssignsRow.holds Try.pinned (OpenSpec.ofChange fnAssignsSpec)

/-- ITS FALSE NEIGHBOUR: 'it returns false'. Refute it at one input. -/
def fnAssignsWrong : ChangeSpec := { name := "fnAssigns", fn := fun _ => fun
  | [d] => { results := [.lit (.bool false)], args := [d] }
  | _ => none }
def FnAssignsWrongFalsely : Prop := fnAssignsRow.holds Try.pinned (OpenSpec.ofChange fnAssignsWrong)

/-- 'laws.FnEqualsUTF16': WHATEVER THE INPUT: true; the input reads as it did. -/
def fnEqualsUTF16Spec : ChangeSpec := { name := "fnEqualsUTF16", fn := fun _ => fun
  | [d1, d2] => { results := [.lit (.bool true)], args := [d1, d2] }
  | _ => none }
def fnEqualsUTF16Row : OpenClaim := { program := "ytdcojgkblfobnaa", sum := "6558f99c07fba35e44e14cb0793a76b9e04f3413946b2af4a7d00a1d5b6e6e3f", func := "given.example/pub-frisket/laws.FnEqualsUTF16", spec := "fnEqualsUTF16", apart := false }
def FnEqualsUTF16Said : Prop := fnEqualsUTF16Row.holds Try.pinned (OpenSpec.ofChange fnEqualsUTF16Spec)

/-- ITS FALSE NEIGHBOUR: 'it returns false'. Refute it at one input. -/
def fnEqualsUTF16Wrong : ChangeSpec := { name := "fnEqualsUTF16", fn := fun _ => fun
  | [d1, d2] => { results := [.lit (.bool false)], args := [d1, d2] }
  | _ => none }
def FnEqualsUTF16WrongFalsely : Prop := fnEqualsUTF16Row.holds Try.pinned (OpenSpec.ofChange fnEqualsUTF16Wrong)

/-- 'laws.FnUnionMax': WHATEVER THE INPUT: true; the input reads as it did. -/
def fnUnionMaxSpec : ChangeSpec := { name := "fnUnionMax", fn := fun _ => fun
  | [d1, d2] => { results := [.lit (.bool true)], args := [d1, d2] }
  | _ => none }
def fnUnionMaxRow : OpenClaim := { program := "ytdcojgkblfobnaa", sum := "6558f99c07fba35e44e14cb0793a76b9e04f3413946b2af4a7d00a1d5b6e6e3f", func := "given.example/pub-frisket/laws.FnUnionMax", spec := "fnUnionMax", apart := false }
def FnUnionMaxSaid : Prop := fnUnionMaxRow.holds Try.pinned (OpenSpec.ofChange fnUnionMaxSpec)

/-- ITS FALSE NEIGHBOUR: 'it returns false'. Refute it at one input. -/
def fnUnionMaxWrong : ChangeSpec := { name := "fnUnionMax", fn := fun _ => fun
  | [d1, d2] => { results := [.lit (.bool false)], args := [d1, d2] }
  | _ => none }
def FnUnionMaxWrongFalsely : Prop := fnUnionMaxRow.holds Try.pinned (OpenSpec.ofChange fnUnionMaxWrong)

/-- 'laws.FnEqualBigInts': WHATEVER THE INPUT: true; the input reads as it did. -/
def fnEqualBigIntsSpec : ChangeSpec := { name := "fnEqualBigInts", fn := fun _ => fun
  | [d1, d2] => { results := [.lit (.bool true)], args := [d1, d2] }
  | _ => none }
def fnEqualBigIntsRow : OpenClaim := { program := "ytdcojgkblfobnaa", sum := "6558f99c07fba35e44e14cb0793a76b9e04f3413946b2af4a7d00a1d5b6e6e3f", func := "given.example/pub-frisket/laws.FnEqualBigInts", spec := "fnEqualBigInts", apart := false }
def FnEqualBigIntsSaid : Prop := fnEqualBigIntsRow.holds Try.pinned (OpenSpec.ofChange fnEqualBigIntsSpec)

/-- ITS FALSE NEIGHBOUR: 'it returns false'. Refute it at one input. -/
def fnEqualBigIntsWrong : ChangeSpec := { name := "fnEqualBigInts", fn := fun _ => fun
  | [d1, d2] => { results := [.lit (.bool false)], args := [d1, d2] }
  | _ => none }
def FnEqualBigIntsWrongFalsely : Prop := fnEqualBigIntsRow.holds Try.pinned (OpenSpec.ofChange fnEqualBigIntsWrong)

/-- 'laws.FnBits': WHATEVER THE INPUT: true; the input reads as it did. -/
def fnBitsSpec : ChangeSpec := { name := "fnBits", fn := fun _ => fun
  | [d1, d2, d3] => { results := [.lit (.bool true)], args := [d1, d2, d3] }
  | _ => none }
def fnBitsRow : OpenClaim := { program := "ytdcojgkblfobnaa", sum := "6558f99c07fba35e44e14cb0793a76b9e04f3413946b2af4a7d00a1d5b6e6e3f", func := "given.example/pub-frisket/laws.FnBits", spec := "fnBits", apart := false }
def FnBitsSaid : Prop := fnBitsRow.holds Try.pinned (OpenSpec.ofChange fnBitsSpec)

/-- ITS FALSE NEIGHBOUR: 'it returns false'. Refute it at one input. -/
def fnBitsWrong : ChangeSpec := { name := "fnBits", fn := fun _ => fun
  | [d1, d2, d3] => { results := [.lit (.bool false)], args := [d1, d2, d3] }
  | _ => none }
def FnBitsWrongFalsely : Prop := fnBitsRow.holds Try.pinned (OpenSpec.ofChange fnBitsWrong)

/-- 'laws.FnRangeOfNumber': WHATEVER THE INPUT: true; the input reads as it did. -/
def fnRangeOfNumberSpec : ChangeSpec := { name := "fnRangeOfNumber", fn := fun _ => fun
  | [d1, d2] => { results := [.lit (.bool true)], args := [d1, d2] }
  | _ => none }
def fnRangeOfNumberRow : OpenClaim := { program := "ytdcojgkblfobnaa", sum := "6558f99c07fba35e44e14cb0793a76b9e04f3413946b2af4a7d00a1d5b6e6e3f", func := "given.example/pub-frisket/laws.FnRangeOfNumber", spec := "fnRangeOfNumber", apart := false }
def FnRangeOfNumberSaid : Prop := fnRangeOfNumberRow.holds Try.pinned (OpenSpec.ofChange fnRangeOfNumberSpec)

/-- ITS FALSE NEIGHBOUR: 'it returns false'. Refute it at one input. -/
def fnRangeOfNumberWrong : ChangeSpec := { name := "fnRangeOfNumber", fn := fun _ => fun
  | [d1, d2] => { results := [.lit (.bool false)], args := [d1, d2] }
  | _ => none }
def FnRangeOfNumberWrongFalsely : Prop := fnRangeOfNumberRow.holds Try.pinned (OpenSpec.ofChange fnRangeOfNumberWrong)

/-- 'laws.FnExpanded': WHATEVER THE INPUT: true; the input reads as it did. -/
def fnExpandedSpec : ChangeSpec := { name := "fnExpanded", fn := fun _ => fun
  | [d1, d2, d3, d4] => { results := [.lit (.bool true)], args := [d1, d2, d3, d4] }
  | _ => none }
def fnExpandedRow : OpenClaim := { program := "ytdcojgkblfobnaa", sum := "6558f99c07fba35e44e14cb0793a76b9e04f3413946b2af4a7d00a1d5b6e6e3f", func := "given.example/pub-frisket/laws.FnExpanded", spec := "fnExpanded", apart := false }
def FnExpandedSaid : Prop := fnExpandedRow.holds Try.pinned (OpenSpec.ofChange fnExpandedSpec)

/-- ITS FALSE NEIGHBOUR: 'it returns false'. Refute it at one input. -/
def fnExpandedWrong : ChangeSpec := { name := "fnExpanded", fn := fun _ => fun
  | [d1, d2, d3, d4] => { results := [.lit (.bool false)], args := [d1, d2, d3, d4] }
  | _ => none }
def FnExpandedWrongFalsely : Prop := fnExpandedRow.holds Try.pinned (OpenSpec.ofChange fnExpandedWrong)

/-- 'laws.FnInclude': WHATEVER THE INPUT: true; the input reads as it did. -/
def fnIncludeSpec : ChangeSpec := { name := "fnInclude", fn := fun _ => fun
  | [d1, d2] => { results := [.lit (.bool true)], args := [d1, d2] }
  | _ => none }
def fnIncludeRow : OpenClaim := { program := "ytdcojgkblfobnaa", sum := "6558f99c07fba35e44e14cb0793a76b9e04f3413946b2af4a7d00a1d5b6e6e3f", func := "given.example/pub-frisket/laws.FnInclude", spec := "fnInclude", apart := false }
def FnIncludeSaid : Prop := fnIncludeRow.holds Try.pinned (OpenSpec.ofChange fnIncludeSpec)

/-- ITS FALSE NEIGHBOUR: 'it returns false'. Refute it at one input. -/
def fnIncludeWrong : ChangeSpec := { name := "fnInclude", fn := fun _ => fun
  | [d1, d2] => { results := [.lit (.bool false)], args := [d1, d2] }
  | _ => none }
def FnIncludeWrongFalsely : Prop := fnIncludeRow.holds Try.pinned (OpenSpec.ofChange fnIncludeWrong)

/-- 'laws.FnVLQ': WHATEVER THE INPUT: true; the input reads as it did. -/
def fnVLQSpec : ChangeSpec := { name := "fnVLQ", fn := fun _ => fun
  | [d1, d2, d3] => { results := [.lit (.bool true)], args := [d1, d2, d3] }
  | _ => none }
def fnVLQRow : OpenClaim := { program := "ytdcojgkblfobnaa", sum := "6558f99c07fba35e44e14cb0793a76b9e04f3413946b2af4a7d00a1d5b6e6e3f", func := "given.example/pub-frisket/laws.FnVLQ", spec := "fnVLQ", inPlace := ["internal/bytealg.IndexByteString"], unfollowed := true, recurses := true, apart := false }
def FnVLQSaid : Prop := fnVLQRow.holds Try.pinned (OpenSpec.ofChange fnVLQSpec)

/-- ITS FALSE NEIGHBOUR: 'it returns false'. Refute it at one input. -/
def fnVLQWrong : ChangeSpec := { name := "fnVLQ", fn := fun _ => fun
  | [d1, d2, d3] => { results := [.lit (.bool false)], args := [d1, d2, d3] }
  | _ => none }
def FnVLQWrongFalsely : Prop := fnVLQRow.holds Try.pinned (OpenSpec.ofChange fnVLQWrong)

/-- 'laws.FnPasted': WHATEVER THE INPUT: true; the input reads as it did. -/
def fnPastedSpec : ChangeSpec := { name := "fnPasted", fn := fun _ => fun
  | [d1, d2] => { results := [.lit (.bool true)], args := [d1, d2] }
  | _ => none }
def fnPastedRow : OpenClaim := { program := "ytdcojgkblfobnaa", sum := "6558f99c07fba35e44e14cb0793a76b9e04f3413946b2af4a7d00a1d5b6e6e3f", func := "given.example/pub-frisket/laws.FnPasted", spec := "fnPasted", apart := false }
def FnPastedSaid : Prop := fnPastedRow.holds Try.pinned (OpenSpec.ofChange fnPastedSpec)

/-- ITS FALSE NEIGHBOUR: 'it returns false'. Refute it at one input. -/
def fnPastedWrong : ChangeSpec := { name := "fnPasted", fn := fun _ => fun
  | [d1, d2] => { results := [.lit (.bool false)], args := [d1, d2] }
  | _ => none }
def FnPastedWrongFalsely : Prop := fnPastedRow.holds Try.pinned (OpenSpec.ofChange fnPastedWrong)

/- THE SECOND FORM. 'bulk': how many values and letters a reading holds, each counted each time it is reached (what is shared counts as often as it is met; a slice's spare places count too). A statement '..UptoSaid' is the law's where the arguments, and the package variables that the reading takes, are together of bulk at most 1048576: NARROWER than '..Said'. Prove '..Said' where nothing that the law and all that it calls make is longer than what came in: it says more and counts as full. Else prove '..UptoSaid'. A law counts once. -/
mutual
def uptoBulk {H : Type} : DataW H → Nat
  | .lit (.string bytes) => bytes.length + 1
  | .lit _ => 1
  | .nil => 1
  | .ptr d => uptoBulk d + 1
  | .slice elems spare => uptoBulkAll elems + uptoBulkAll spare + 1
  | .agg parts => uptoBulkAll parts + 1
  | .iface _ d => uptoBulk d + 1
  | .map entries => uptoBulkEntries entries + 1
  | .held _ => 1
def uptoBulkAll {H : Type} : List (DataW H) → Nat
  | [] => 0
  | d :: r => uptoBulk d + uptoBulkAll r
def uptoBulkEntries {H : Type} : List (Lit × DataW H) → Nat
  | [] => 0
  | x :: r => uptoBulkEntry x + uptoBulkEntries r
def uptoBulkEntry {H : Type} : Lit × DataW H → Nat
  | (.string bytes, d) => bytes.length + uptoBulk d + 1
  | (_, d) => uptoBulk d + 1
 end
def uptoSmall : (H : Type) → List (DataW H) → Bool := fun _ ds => decide (uptoBulkAll ds ≤ 1048576)
def OpenSpec.upto (s : _root_.Go.ChangeSpec) : _root_.Go.OpenSpec := { _root_.Go.OpenSpec.ofChange s with cond := some uptoSmall }

/-- 'laws.FnAssigns', WHERE WHAT IT READS IS OF BULK AT MOST 1048576: true; the input reads as it did. -/
def fnAssignsUptoRow : OpenClaim := { program := "ytdcojgkblfobnaa", sum := "6558f99c07fba35e44e14cb0793a76b9e04f3413946b2af4a7d00a1d5b6e6e3f", func := "given.example/pub-frisket/laws.FnAssigns", spec := "fnAssigns", apart := false, narrowed := true }
def FnAssignsUptoSaid : Prop := fnAssignsUptoRow.holds Try.pinned (OpenSpec.upto fnAssignsSpec)

/-- 'laws.FnEqualsUTF16', WHERE WHAT IT READS IS OF BULK AT MOST 1048576: true; the input reads as it did. -/
def fnEqualsUTF16UptoRow : OpenClaim := { program := "ytdcojgkblfobnaa", sum := "6558f99c07fba35e44e14cb0793a76b9e04f3413946b2af4a7d00a1d5b6e6e3f", func := "given.example/pub-frisket/laws.FnEqualsUTF16", spec := "fnEqualsUTF16", apart := false, narrowed := true }
def FnEqualsUTF16UptoSaid : Prop := fnEqualsUTF16UptoRow.holds Try.pinned (OpenSpec.upto fnEqualsUTF16Spec)

/-- 'laws.FnUnionMax', WHERE WHAT IT READS IS OF BULK AT MOST 1048576: true; the input reads as it did. -/
def fnUnionMaxUptoRow : OpenClaim := { program := "ytdcojgkblfobnaa", sum := "6558f99c07fba35e44e14cb0793a76b9e04f3413946b2af4a7d00a1d5b6e6e3f", func := "given.example/pub-frisket/laws.FnUnionMax", spec := "fnUnionMax", apart := false, narrowed := true }
def FnUnionMaxUptoSaid : Prop := fnUnionMaxUptoRow.holds Try.pinned (OpenSpec.upto fnUnionMaxSpec)

/-- 'laws.FnEqualBigInts', WHERE WHAT IT READS IS OF BULK AT MOST 1048576: true; the input reads as it did. -/
def fnEqualBigIntsUptoRow : OpenClaim := { program := "ytdcojgkblfobnaa", sum := "6558f99c07fba35e44e14cb0793a76b9e04f3413946b2af4a7d00a1d5b6e6e3f", func := "given.example/pub-frisket/laws.FnEqualBigInts", spec := "fnEqualBigInts", apart := false, narrowed := true }
def FnEqualBigIntsUptoSaid : Prop := fnEqualBigIntsUptoRow.holds Try.pinned (OpenSpec.upto fnEqualBigIntsSpec)

/-- 'laws.FnBits', WHERE WHAT IT READS IS OF BULK AT MOST 1048576: true; the input reads as it did. -/
def fnBitsUptoRow : OpenClaim := { program := "ytdcojgkblfobnaa", sum := "6558f99c07fba35e44e14cb0793a76b9e04f3413946b2af4a7d00a1d5b6e6e3f", func := "given.example/pub-frisket/laws.FnBits", spec := "fnBits", apart := false, narrowed := true }
def FnBitsUptoSaid : Prop := fnBitsUptoRow.holds Try.pinned (OpenSpec.upto fnBitsSpec)

/-- 'laws.FnRangeOfNumber', WHERE WHAT IT READS IS OF BULK AT MOST 1048576: true; the input reads as it did. -/
def fnRangeOfNumberUptoRow : OpenClaim := { program := "ytdcojgkblfobnaa", sum := "6558f99c07fba35e44e14cb0793a76b9e04f3413946b2af4a7d00a1d5b6e6e3f", func := "given.example/pub-frisket/laws.FnRangeOfNumber", spec := "fnRangeOfNumber", apart := false, narrowed := true }
def FnRangeOfNumberUptoSaid : Prop := fnRangeOfNumberUptoRow.holds Try.pinned (OpenSpec.upto fnRangeOfNumberSpec)

/-- 'laws.FnExpanded', WHERE WHAT IT READS IS OF BULK AT MOST 1048576: true; the input reads as it did. -/
def fnExpandedUptoRow : OpenClaim := { program := "ytdcojgkblfobnaa", sum := "6558f99c07fba35e44e14cb0793a76b9e04f3413946b2af4a7d00a1d5b6e6e3f", func := "given.example/pub-frisket/laws.FnExpanded", spec := "fnExpanded", apart := false, narrowed := true }
def FnExpandedUptoSaid : Prop := fnExpandedUptoRow.holds Try.pinned (OpenSpec.upto fnExpandedSpec)

/-- 'laws.FnInclude', WHERE WHAT IT READS IS OF BULK AT MOST 1048576: true; the input reads as it did. -/
def fnIncludeUptoRow : OpenClaim := { program := "ytdcojgkblfobnaa", sum := "6558f99c07fba35e44e14cb0793a76b9e04f3413946b2af4a7d00a1d5b6e6e3f", func := "given.example/pub-frisket/laws.FnInclude", spec := "fnInclude", apart := false, narrowed := true }
def FnIncludeUptoSaid : Prop := fnIncludeUptoRow.holds Try.pinned (OpenSpec.upto fnIncludeSpec)

/-- 'laws.FnVLQ', WHERE WHAT IT READS IS OF BULK AT MOST 1048576: true; the input reads as it did. -/
def fnVLQUptoRow : OpenClaim := { program := "ytdcojgkblfobnaa", sum := "6558f99c07fba35e44e14cb0793a76b9e04f3413946b2af4a7d00a1d5b6e6e3f", func := "given.example/pub-frisket/laws.FnVLQ", spec := "fnVLQ", inPlace := ["internal/bytealg.IndexByteString"], unfollowed := true, recurses := true, apart := false, narrowed := true }
def FnVLQUptoSaid : Prop := fnVLQUptoRow.holds Try.pinned (OpenSpec.upto fnVLQSpec)

/-- 'laws.FnPasted', WHERE WHAT IT READS IS OF BULK AT MOST 1048576: true; the input reads as it did. -/
def fnPastedUptoRow : OpenClaim := { program := "ytdcojgkblfobnaa", sum := "6558f99c07fba35e44e14cb0793a76b9e04f3413946b2af4a7d00a1d5b6e6e3f", func := "given.example/pub-frisket/laws.FnPasted", spec := "fnPasted", apart := false, narrowed := true }
def FnPastedUptoSaid : Prop := fnPastedUptoRow.holds Try.pinned (OpenSpec.upto fnPastedSpec)

end Rows
end Go.Proofs.Ytdcojgkblfobnaa
