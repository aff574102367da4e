/-
  DERIVED. GIVEN WITH THE SEED: THE CARDS: each row of YtifgealimgedpaaDoorRows.lean that lists a variable, with what it lists TIED to the program's text (the seventh form; the later family's looks); each row that meets fmt, with fmt's text TOLD by the authors' own Lean function (tested against real Go, not proved from fmt's source: count such statements apart). THE CARD IS WHAT COUNTS. Prove the row's statement (the work); the ties are given (YtifgealimgedpaaDoorTie.lean); close each card by the builder's one call (the guide's Derived/Test/ToyasCard.lean, 'card_holds'). Laid BY PROGRAM, IN A SANDBOX (cutbox-door.mjs). By AI agents, Wed Nov 11 2026. No macro, syntax, notation, axiom, sorry.
-/
import Derived.Test.YtifgealimgedpaaDoorRows
import GoSem.ClaimSeven
namespace Go.Proofs.YtifgealimgedpaaDoor
namespace Rows

/-- THE TIED CARD OF 'laws.FnNumberToString'. -/
def fnNumberToStringCard : Claim7 := { stood := { row := fnNumberToStringRow, standIns := [], harness := (true, "091997a43104a7b1186e18ac8ef28aec79909631ec8c287e2a8350a80f70177d"), looks := false }, kinds := [], alts := [], laidByText := true, laidKinds := [.data, .data, .data], laidTests := true, laidLooks := .later }
def FnNumberToStringCardSaid : Prop := Claim7.holds Tryd.pinned (.plain (OpenSpec.ofChange fnNumberToStringSpec)) fnNumberToStringCard

/-- THE SECOND FORM's CARD OF 'laws.FnNumberToString'. -/
def fnNumberToStringUptoCard : Claim7 := { stood := { row := fnNumberToStringUptoRow, standIns := [], harness := (true, "091997a43104a7b1186e18ac8ef28aec79909631ec8c287e2a8350a80f70177d"), looks := false }, kinds := [], alts := [], laidByText := true, laidKinds := [.data, .data, .data], laidTests := true, laidLooks := .later }
def FnNumberToStringUptoCardSaid : Prop := Claim7.holds Tryd.pinned (.plain (OpenSpec.upto fnNumberToStringSpec)) fnNumberToStringUptoCard
end Rows
end Go.Proofs.YtifgealimgedpaaDoor
