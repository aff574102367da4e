/-
  DERIVED. GIVEN WITH THE SEED: THE CARDS: each row of YtdcojgkblfobnaaDoorRows.lean that lists a variable, with what it lists TIED to the program's text (the seventh form; the later family's looks); each row that meets fmt, with fmt's text TOLD by the authors' own Lean function (tested against real Go, not proved from fmt's source: count such statements apart). THE CARD IS WHAT COUNTS. Prove the row's statement (the work); the ties are given (YtdcojgkblfobnaaDoorTie.lean); close each card by the builder's one call (the guide's Derived/Test/ToyasCard.lean, 'card_holds'). Laid BY PROGRAM, IN A SANDBOX (cutbox-door.mjs). By AI agents, Wed Nov 11 2026. No macro, syntax, notation, axiom, sorry.
-/
import Derived.Test.YtdcojgkblfobnaaDoorRows
import GoSem.ClaimSeven
namespace Go.Proofs.YtdcojgkblfobnaaDoor
namespace Rows

/-- THE TIED CARD OF 'laws.FnSlotSpace'. -/
def fnSlotSpaceCard : Claim7 := { stood := { row := fnSlotSpaceRow, standIns := [], harness := (true, "7e2b56dd68f4895c9db95de8921a6e64ed15572fe151027cf73f8b4783d6944c"), looks := false }, kinds := [], alts := [], laidByText := true, laidKinds := [.data], laidTests := true, laidLooks := .later }
def FnSlotSpaceCardSaid : Prop := Claim7.holds Tryd.pinned (.plain (OpenSpec.ofChange fnSlotSpaceSpec)) fnSlotSpaceCard

/-- THE TIED CARD OF 'laws.FnMinifiedOrder'. -/
def fnMinifiedOrderCard : Claim7 := { stood := { row := fnMinifiedOrderRow, standIns := [], harness := (true, "7e2b56dd68f4895c9db95de8921a6e64ed15572fe151027cf73f8b4783d6944c"), looks := false }, kinds := [], alts := [], laidByText := true, laidKinds := [.wider], laidTests := true, laidLooks := .later }
def FnMinifiedOrderCardSaid : Prop := Claim7.holds Tryd.pinned (.plain (OpenSpec.ofChange fnMinifiedOrderSpec)) fnMinifiedOrderCard

/-- THE SECOND FORM's CARD OF 'laws.FnSlotSpace'. -/
def fnSlotSpaceUptoCard : Claim7 := { stood := { row := fnSlotSpaceUptoRow, standIns := [], harness := (true, "7e2b56dd68f4895c9db95de8921a6e64ed15572fe151027cf73f8b4783d6944c"), looks := false }, kinds := [], alts := [], laidByText := true, laidKinds := [.data], laidTests := true, laidLooks := .later }
def FnSlotSpaceUptoCardSaid : Prop := Claim7.holds Tryd.pinned (.plain (OpenSpec.upto fnSlotSpaceSpec)) fnSlotSpaceUptoCard

/-- THE SECOND FORM's CARD OF 'laws.FnMinifiedOrder'. -/
def fnMinifiedOrderUptoCard : Claim7 := { stood := { row := fnMinifiedOrderUptoRow, standIns := [], harness := (true, "7e2b56dd68f4895c9db95de8921a6e64ed15572fe151027cf73f8b4783d6944c"), looks := false }, kinds := [], alts := [], laidByText := true, laidKinds := [.wider], laidTests := true, laidLooks := .later }
def FnMinifiedOrderUptoCardSaid : Prop := Claim7.holds Tryd.pinned (.plain (OpenSpec.upto fnMinifiedOrderSpec)) fnMinifiedOrderUptoCard
end Rows
end Go.Proofs.YtdcojgkblfobnaaDoor
