/-
  DERIVED. GIVEN WITH THE SEED: THE CARDS: each row of YtlgacgiikmkfcaaGreatDoorRows.lean that lists a variable, with what it lists TIED to the program's text (the seventh form; the later family's looks); each row that meets fmt, with fmt's text TOLD by the authors' own Lean function (tested against real Go, not proved from fmt's source: count such statements apart). THE CARD IS WHAT COUNTS. Prove the row's statement (the work); the ties are given (YtlgacgiikmkfcaaGreatDoorTie.lean); close each card by the builder's one call (the guide's Derived/Test/ToyasCard.lean, 'card_holds'). Laid BY PROGRAM, IN A SANDBOX (cutbox-door.mjs). By AI agents, Wed Nov 11 2026. No macro, syntax, notation, axiom, sorry.
-/
import Derived.Test.YtlgacgiikmkfcaaGreatDoorRows
import GoSem.ClaimSeven
namespace Go.Proofs.YtlgacgiikmkfcaaGreatDoor
namespace Rows

/-- THE TIED CARD OF 'laws.FnAddress'. -/
def fnAddressCard : Claim7 := { stood := { row := fnAddressRow, standIns := [], harness := (true, "5e01284c6c93cce0805b9c4de83c21a5989e89feb7abde037ace43ce8f8d3255"), looks := false }, kinds := [], alts := [], laidByText := true, laidKinds := [.data, .listed, .data, .pinned, .pinned], laidTests := true, laidLooks := .later }
def FnAddressCardSaid : Prop := Claim7.holds Tryz.pinned (.plain (OpenSpec.ofChange fnAddressSpec)) fnAddressCard

/-- THE TIED CARD OF 'laws.FnAttrs'. -/
def fnAttrsCard : Claim7 := { stood := { row := fnAttrsRow, standIns := [], harness := (true, "5e01284c6c93cce0805b9c4de83c21a5989e89feb7abde037ace43ce8f8d3255"), looks := false }, kinds := [], alts := [], laidByText := true, laidKinds := [.data, .listed, .data, .data, .pinned, .pinned, .pinned, .pinned], laidTests := true, laidLooks := .later }
def FnAttrsCardSaid : Prop := Claim7.holds Tryz.pinned (.plain (OpenSpec.ofChange fnAttrsSpec)) fnAttrsCard

/-- THE SECOND FORM's CARD OF 'laws.FnAddress'. -/
def fnAddressUptoCard : Claim7 := { stood := { row := fnAddressUptoRow, standIns := [], harness := (true, "5e01284c6c93cce0805b9c4de83c21a5989e89feb7abde037ace43ce8f8d3255"), looks := false }, kinds := [], alts := [], laidByText := true, laidKinds := [.data, .listed, .data, .pinned, .pinned], laidTests := true, laidLooks := .later }
def FnAddressUptoCardSaid : Prop := Claim7.holds Tryz.pinned (.plain (OpenSpec.upto fnAddressSpec)) fnAddressUptoCard

/-- THE SECOND FORM's CARD OF 'laws.FnAttrs'. -/
def fnAttrsUptoCard : Claim7 := { stood := { row := fnAttrsUptoRow, standIns := [], harness := (true, "5e01284c6c93cce0805b9c4de83c21a5989e89feb7abde037ace43ce8f8d3255"), looks := false }, kinds := [], alts := [], laidByText := true, laidKinds := [.data, .listed, .data, .data, .pinned, .pinned, .pinned, .pinned], laidTests := true, laidLooks := .later }
def FnAttrsUptoCardSaid : Prop := Claim7.holds Tryz.pinned (.plain (OpenSpec.upto fnAttrsSpec)) fnAttrsUptoCard
end Rows
end Go.Proofs.YtlgacgiikmkfcaaGreatDoor
