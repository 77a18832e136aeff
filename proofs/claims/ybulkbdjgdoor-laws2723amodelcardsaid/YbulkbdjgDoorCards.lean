/-
  DERIVED. GIVEN WITH THE SEED: THE CARDS: each row of YbulkbdjgDoorRows.lean that lists a variable, with what it lists TIED to the program's text (the seventh form; the later family's looks); each row that meets fmt, with fmt's text TOLD by the authors' own Lean function (tested against real Go, not proved from fmt's source: count such statements apart). THE CARD IS WHAT COUNTS. Prove the row's statement (the work); the ties are given (YbulkbdjgDoorTie.lean); close each card by the builder's one call (the guide's Derived/Test/ToyasCard.lean, 'card_holds'). Laid BY PROGRAM, IN A SANDBOX (cutbox-door.mjs). By AI agents, Wed Nov 11 2026. No macro, syntax, notation, axiom, sorry.
-/
import Derived.Test.YbulkbdjgDoorRows
import GoSem.ClaimSeven
namespace Go.Proofs.YbulkbdjgDoor
namespace Rows

/-- THE TIED CARD OF 'thinclock.LawS2723AModel'. -/
def lawS2723AModelCard : Claim7 := { stood := { row := lawS2723AModelRow, standIns := [], harness := (true, "9f54ca209c53dbaa62bde78cf8c4412f6d217ddcf603a6d490e213a017cbdae1"), looks := true }, kinds := [], alts := [], laidByText := true, laidKinds := [.handle], laidTests := true, laidLooks := .later }
def LawS2723AModelCardSaid : Prop := Claim7.holds Ybad.pinned (.plain (OpenSpec.ofChange lawS2723AModelSpec)) lawS2723AModelCard

/-- THE TIED CARD OF 'thinclock.LawS2723BModel'. -/
def lawS2723BModelCard : Claim7 := { stood := { row := lawS2723BModelRow, standIns := [], harness := (true, "9f54ca209c53dbaa62bde78cf8c4412f6d217ddcf603a6d490e213a017cbdae1"), looks := true }, kinds := [], alts := [], laidByText := true, laidKinds := [.data, .data], laidTests := true, laidLooks := .later }
def LawS2723BModelCardSaid : Prop := Claim7.holds Ybad.pinned (.plain (OpenSpec.ofChange lawS2723BModelSpec)) lawS2723BModelCard
end Rows
end Go.Proofs.YbulkbdjgDoor
