/-
  DERIVED. GIVEN WITH THE SEED: THE CARDS: each row of YbulkbdlyFmtRows.lean that lists a variable, with what it lists TIED to the program's text (the seventh form; the later family's looks); each row that meets fmt, with fmt's text TOLD by the authors' own Lean function (tested against real Go, not proved from fmt's source: count such statements apart). THE CARD IS WHAT COUNTS. Prove the row's statement (the work); the ties are given (YbulkbdlyFmtTie.lean); close each card by the builder's one call (the guide's Derived/Test/ToyasCard.lean, 'card_holds'). Laid BY PROGRAM, IN A SANDBOX (cutbox-door.mjs). By AI agents, Wed Nov 11 2026. No macro, syntax, notation, axiom, sorry.
-/
import Derived.Test.YbulkbdlyFmtRows
import GoSem.ClaimSeven
namespace Go.Proofs.YbulkbdlyFmt
namespace Rows

/-- THE TOLD CARD OF 'wire.LawS2728BReads'. -/
def lawS2728BReadsCard : Claim7 := { stood := { row := lawS2728BReadsRow, standIns := [], harness := (true, "7a9123e406ffae5eec88d455570f3859e9b41740b31991cec27265f1f45dd156"), looks := true }, told := true, goes := false }
def LawS2728BReadsToldSaid : Prop := Claim7.holds Ybaf.pinned (.plain (OpenSpec.ofChange lawS2728BReadsSpec)) lawS2728BReadsCard
/-- ITS FALSE NEIGHBOUR. Refute it at one input. -/
def LawS2728BReadsToldWrongFalsely : Prop := Claim7.holds Ybaf.pinned (.plain (OpenSpec.ofChange lawS2728BReadsWrong)) lawS2728BReadsCard

/-- THE TOLD CARD OF 'wire.LawS2728BSplits'. -/
def lawS2728BSplitsCard : Claim7 := { stood := { row := lawS2728BSplitsRow, standIns := [], harness := (true, "7a9123e406ffae5eec88d455570f3859e9b41740b31991cec27265f1f45dd156"), looks := true }, told := true, goes := false }
def LawS2728BSplitsToldSaid : Prop := Claim7.holds Ybaf.pinned (.plain (OpenSpec.ofChange lawS2728BSplitsSpec)) lawS2728BSplitsCard
/-- ITS FALSE NEIGHBOUR. Refute it at one input. -/
def LawS2728BSplitsToldWrongFalsely : Prop := Claim7.holds Ybaf.pinned (.plain (OpenSpec.ofChange lawS2728BSplitsWrong)) lawS2728BSplitsCard
end Rows
end Go.Proofs.YbulkbdlyFmt
