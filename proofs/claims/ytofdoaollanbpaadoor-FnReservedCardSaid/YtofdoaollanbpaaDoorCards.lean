/-
  DERIVED. GIVEN WITH THE SEED: THE CARDS: each row of YtofdoaollanbpaaDoorRows.lean that lists a variable, with what it lists TIED to the program's text (the seventh form; the later family's looks); each row that meets fmt, with fmt's text TOLD by the authors' own Lean function (tested against real Go, not proved from fmt's source: count such statements apart). THE CARD IS WHAT COUNTS. Prove the row's statement (the work); the ties are given (YtofdoaollanbpaaDoorTie.lean); close each card by the builder's one call (the guide's Derived/Test/ToyasCard.lean, 'card_holds'). Laid BY PROGRAM, IN A SANDBOX (cutbox-door.mjs). By AI agents, Wed Nov 11 2026. No macro, syntax, notation, axiom, sorry.
-/
import Derived.Test.YtofdoaollanbpaaDoorRows
import GoSem.ClaimSeven
namespace Go.Proofs.YtofdoaollanbpaaDoor
namespace Rows

/-- THE TIED CARD OF 'laws.FnReserved'. -/
def fnReservedCard : Claim7 := { stood := { row := fnReservedRow, standIns := [], harness := (true, "5148bfdc9950ae25f0ac82ea23cff133406e2c4f5357062412970f07493f7a2e"), looks := false }, kinds := [], alts := [], laidByText := true, laidKinds := [.data, .mapped, .mapped], laidTests := true, laidLooks := .later }
def FnReservedCardSaid : Prop := Claim7.holds Tryd.pinned (.plain (OpenSpec.ofChange fnReservedSpec)) fnReservedCard

/-- THE SECOND FORM's CARD OF 'laws.FnReserved'. -/
def fnReservedUptoCard : Claim7 := { stood := { row := fnReservedUptoRow, standIns := [], harness := (true, "5148bfdc9950ae25f0ac82ea23cff133406e2c4f5357062412970f07493f7a2e"), looks := false }, kinds := [], alts := [], laidByText := true, laidKinds := [.data, .mapped, .mapped], laidTests := true, laidLooks := .later }
def FnReservedUptoCardSaid : Prop := Claim7.holds Tryd.pinned (.plain (OpenSpec.upto fnReservedSpec)) fnReservedUptoCard
end Rows
end Go.Proofs.YtofdoaollanbpaaDoor
