/-
  DERIVED. GIVEN WITH THE SEED: THE CARDS: each row of YtjhglhckdjnkgaaDoorRows.lean that lists a variable, with what it lists TIED to the program's text (the seventh form; the later family's looks); each row that meets fmt, with fmt's text TOLD by the authors' own Lean function (tested against real Go, not proved from fmt's source: count such statements apart). THE CARD IS WHAT COUNTS. Prove the row's statement (the work); the ties are given (YtjhglhckdjnkgaaDoorTie.lean); close each card by the builder's one call (the guide's Derived/Test/ToyasCard.lean, 'card_holds'). Laid BY PROGRAM, IN A SANDBOX (cutbox-door.mjs). By AI agents, Wed Nov 11 2026. No macro, syntax, notation, axiom, sorry.
-/
import Derived.Test.YtjhglhckdjnkgaaDoorRows
import GoSem.ClaimSeven
namespace Go.Proofs.YtjhglhckdjnkgaaDoor
namespace Rows

/-- THE TIED CARD OF 'laws.FnAddOffset'. -/
def fnAddOffsetCard : Claim7 := { stood := { row := fnAddOffsetRow, standIns := [], harness := (true, "e4d980f32bcc7996473fd9b8964c42b725d33683276f58809a1ce825bdebbc25"), looks := false }, kinds := [], alts := [], laidByText := true, laidKinds := [.data, .pinned], laidTests := true, laidLooks := .later }
def FnAddOffsetCardSaid : Prop := Claim7.holds Tryd.pinned (.plain (OpenSpec.ofChange fnAddOffsetSpec)) fnAddOffsetCard

/-- THE TIED CARD OF 'laws.FnDataURL'. -/
def fnDataURLCard : Claim7 := { stood := { row := fnDataURLRow, standIns := [], harness := (true, "e4d980f32bcc7996473fd9b8964c42b725d33683276f58809a1ce825bdebbc25"), looks := false }, kinds := [], alts := [], laidByText := true, laidKinds := [.data, .pinned], laidTests := true, laidLooks := .later }
def FnDataURLCardSaid : Prop := Claim7.holds Tryd.pinned (.plain (OpenSpec.ofChange fnDataURLSpec)) fnDataURLCard

/-- THE TIED CARD OF 'laws.FnNumberToString'. -/
def fnNumberToStringCard : Claim7 := { stood := { row := fnNumberToStringRow, standIns := [], harness := (true, "e4d980f32bcc7996473fd9b8964c42b725d33683276f58809a1ce825bdebbc25"), looks := false }, kinds := [], alts := [], laidByText := true, laidKinds := [.data, .data, .data], laidTests := true, laidLooks := .later }
def FnNumberToStringCardSaid : Prop := Claim7.holds Tryd.pinned (.plain (OpenSpec.ofChange fnNumberToStringSpec)) fnNumberToStringCard

/-- THE TIED CARD OF 'laws.FnReserved'. -/
def fnReservedCard : Claim7 := { stood := { row := fnReservedRow, standIns := [], harness := (true, "e4d980f32bcc7996473fd9b8964c42b725d33683276f58809a1ce825bdebbc25"), looks := false }, kinds := [], alts := [], laidByText := true, laidKinds := [.data, .mapped, .mapped], laidTests := true, laidLooks := .later }
def FnReservedCardSaid : Prop := Claim7.holds Tryd.pinned (.plain (OpenSpec.ofChange fnReservedSpec)) fnReservedCard

/-- THE SECOND FORM's CARD OF 'laws.FnAddOffset'. -/
def fnAddOffsetUptoCard : Claim7 := { stood := { row := fnAddOffsetUptoRow, standIns := [], harness := (true, "e4d980f32bcc7996473fd9b8964c42b725d33683276f58809a1ce825bdebbc25"), looks := false }, kinds := [], alts := [], laidByText := true, laidKinds := [.data, .pinned], laidTests := true, laidLooks := .later }
def FnAddOffsetUptoCardSaid : Prop := Claim7.holds Tryd.pinned (.plain (OpenSpec.upto fnAddOffsetSpec)) fnAddOffsetUptoCard

/-- THE SECOND FORM's CARD OF 'laws.FnDataURL'. -/
def fnDataURLUptoCard : Claim7 := { stood := { row := fnDataURLUptoRow, standIns := [], harness := (true, "e4d980f32bcc7996473fd9b8964c42b725d33683276f58809a1ce825bdebbc25"), looks := false }, kinds := [], alts := [], laidByText := true, laidKinds := [.data, .pinned], laidTests := true, laidLooks := .later }
def FnDataURLUptoCardSaid : Prop := Claim7.holds Tryd.pinned (.plain (OpenSpec.upto fnDataURLSpec)) fnDataURLUptoCard

/-- THE SECOND FORM's CARD OF 'laws.FnNumberToString'. -/
def fnNumberToStringUptoCard : Claim7 := { stood := { row := fnNumberToStringUptoRow, standIns := [], harness := (true, "e4d980f32bcc7996473fd9b8964c42b725d33683276f58809a1ce825bdebbc25"), looks := false }, kinds := [], alts := [], laidByText := true, laidKinds := [.data, .data, .data], laidTests := true, laidLooks := .later }
def FnNumberToStringUptoCardSaid : Prop := Claim7.holds Tryd.pinned (.plain (OpenSpec.upto fnNumberToStringSpec)) fnNumberToStringUptoCard

/-- THE SECOND FORM's CARD OF 'laws.FnReserved'. -/
def fnReservedUptoCard : Claim7 := { stood := { row := fnReservedUptoRow, standIns := [], harness := (true, "e4d980f32bcc7996473fd9b8964c42b725d33683276f58809a1ce825bdebbc25"), looks := false }, kinds := [], alts := [], laidByText := true, laidKinds := [.data, .mapped, .mapped], laidTests := true, laidLooks := .later }
def FnReservedUptoCardSaid : Prop := Claim7.holds Tryd.pinned (.plain (OpenSpec.upto fnReservedSpec)) fnReservedUptoCard
end Rows
end Go.Proofs.YtjhglhckdjnkgaaDoor
