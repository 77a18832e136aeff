/-
  No cell of these rows narrows 'for every input' (looked for: loops, veiled, ifaces, maps, wideKeys, modest, calm, conditions, laid).
  DERIVED. THE GIVEN ROWS OF THIS SEAT. 2 by the template 'for every input the law returns true; each argument reads behind the call as it read before'; 0 by the template 'total and deterministic' (their statements: YbulkbdlyFmtTotals.lean).
  GIVEN WITH THE SEED: the statements are not yours to turn. If you find one false, say at which input.
  Laid BY PROGRAM, IN A SANDBOX (cutbox-rows.mjs): the forced cells as the released guide's own fill.sh prints them over the translation 536c48b4e4622238… (all of the seat's roots in one cut). By AI agents, Wed Nov 11 2026. No macro, syntax, notation, axiom, sorry.
-/
import Derived.Test.YbulkbdlyFmtChecked
import GoSem.Claim
import GoSem.ClaimJoined
import GoSem.ClaimMapViews
import Derived.JoinedTies
import Derived.KernelRfl
namespace Go.Proofs.YbulkbdlyFmt
/- THE CELL 'sum', in the pinned program and in every row, IS THE sha256 OF THE DUMP (.gsa) THAT YbulkbdlyFmtProg.lean LOADS. Nothing in Lean hashes anything: it is a label: what it is worth is what the hold of that sum in a sandbox is worth. -/
noncomputable def Ybaf.pinned : Pinned := { name := "ybulkbdlyfmt", sum := "536c48b4e46222387e8a09bd656e2f6b4d54210b87251468b8cade4f81709e42", checked := Ybaf.checked }
namespace Rows
def none {H : Type} : Left H := { results := [], args := [] }

/-- 'wire.LawS2728BReads': WHATEVER THE INPUT: true; the input reads as it did. -/
def lawS2728BReadsSpec : ChangeSpec := { name := "lawS2728BReads", fn := fun _ => fun
  | [d1, d2] => { results := [.lit (.bool true)], args := [d1, d2] }
  | _ => none }
def lawS2728BReadsRow : OpenClaim := { program := "ybulkbdlyfmt", sum := "536c48b4e46222387e8a09bd656e2f6b4d54210b87251468b8cade4f81709e42", func := "example.com/driftring/driftring/pkg/wire.LawS2728BReads", spec := "lawS2728BReads", stops := ["fmt.Sprintf, its operands' methods called"], inPlace := ["fmt.Sprintf"], unfollowed := true, recurses := true, named := ["encoding/binary.BigEndian"], apart := false }
/-- NO THEOREM (fmt's text is open here; it may be false): for the released tool's asking of the row's closed facts alone. THE STATEMENT IS 'LawS2728BReadsToldSaid' (YbulkbdlyFmtCards.lean). -/
def LawS2728BReadsFormAsk : Prop := lawS2728BReadsRow.holds Ybaf.pinned (OpenSpec.ofChange lawS2728BReadsSpec)

/-- ITS FALSE NEIGHBOUR: 'it returns false'. Refute it at one input. -/
def lawS2728BReadsWrong : ChangeSpec := { name := "lawS2728BReads", fn := fun _ => fun
  | [d1, d2] => { results := [.lit (.bool false)], args := [d1, d2] }
  | _ => none }
def LawS2728BReadsWrongFormAsk : Prop := lawS2728BReadsRow.holds Ybaf.pinned (OpenSpec.ofChange lawS2728BReadsWrong)

/-- 'wire.LawS2728BSplits': WHATEVER THE INPUT: true; the input reads as it did. -/
def lawS2728BSplitsSpec : ChangeSpec := { name := "lawS2728BSplits", fn := fun _ => fun
  | [d] => { results := [.lit (.bool true)], args := [d] }
  | _ => none }
def lawS2728BSplitsRow : OpenClaim := { program := "ybulkbdlyfmt", sum := "536c48b4e46222387e8a09bd656e2f6b4d54210b87251468b8cade4f81709e42", func := "example.com/driftring/driftring/pkg/wire.LawS2728BSplits", spec := "lawS2728BSplits", stops := ["fmt.Sprintf, its operands' methods called"], inPlace := ["fmt.Sprintf"], unfollowed := true, recurses := true, named := ["encoding/binary.BigEndian"], apart := false }
/-- NO THEOREM (fmt's text is open here; it may be false): for the released tool's asking of the row's closed facts alone. THE STATEMENT IS 'LawS2728BSplitsToldSaid' (YbulkbdlyFmtCards.lean). -/
def LawS2728BSplitsFormAsk : Prop := lawS2728BSplitsRow.holds Ybaf.pinned (OpenSpec.ofChange lawS2728BSplitsSpec)

/-- ITS FALSE NEIGHBOUR: 'it returns false'. Refute it at one input. -/
def lawS2728BSplitsWrong : ChangeSpec := { name := "lawS2728BSplits", fn := fun _ => fun
  | [d] => { results := [.lit (.bool false)], args := [d] }
  | _ => none }
def LawS2728BSplitsWrongFormAsk : Prop := lawS2728BSplitsRow.holds Ybaf.pinned (OpenSpec.ofChange lawS2728BSplitsWrong)

end Rows
end Go.Proofs.YbulkbdlyFmt
