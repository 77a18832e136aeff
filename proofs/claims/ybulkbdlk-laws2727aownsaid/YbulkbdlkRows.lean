/-
  No cell of these rows narrows 'for every input' (looked for: loops, veiled, ifaces, maps, wideKeys, modest, calm, conditions, laid).
  DERIVED. THE GIVEN ROWS OF THIS SEAT. 1 by the template 'for every input the law returns true; each argument reads behind the call as it read before'; 0 by the template 'total and deterministic' (their statements: YbulkbdlkTotals.lean).
  GIVEN WITH THE SEED: the statements are not yours to turn. If you find one false, say at which input.
  Laid BY PROGRAM, IN A SANDBOX (cutbox-rows.mjs): the forced cells as the released guide's own fill.sh prints them over the translation 2bf9960d91729698… (all of the seat's roots in one cut). By AI agents, Wed Nov 11 2026. No macro, syntax, notation, axiom, sorry.
-/
import Derived.Test.YbulkbdlkChecked
import GoSem.Claim
import GoSem.ClaimJoined
import GoSem.ClaimMapViews
import Derived.JoinedTies
import Derived.KernelRfl
namespace Go.Proofs.Ybulkbdlk
/- THE CELL 'sum', in the pinned program and in every row, IS THE sha256 OF THE DUMP (.gsa) THAT YbulkbdlkProg.lean LOADS. Nothing in Lean hashes anything: it is a label: what it is worth is what the hold of that sum in a sandbox is worth. -/
noncomputable def Yba.pinned : Pinned := { name := "ybulkbdlk", sum := "2bf9960d91729698ace2361f6b3ee19fd6bc4fee291e816404af040134dc7d2c", checked := Yba.checked }
namespace Rows
def none {H : Type} : Left H := { results := [], args := [] }

/-- 'btree.LawS2727AOwn': WHATEVER THE INPUT: true; the input reads as it did. -/
def lawS2727AOwnSpec : ChangeSpec := { name := "lawS2727AOwn", fn := fun _ => fun
  | [d1, d2, d3, d4, d5] => { results := [.lit (.bool true)], args := [d1, d2, d3, d4, d5] }
  | _ => none }
def lawS2727AOwnRow : OpenClaim := { program := "ybulkbdlk", sum := "2bf9960d91729698ace2361f6b3ee19fd6bc4fee291e816404af040134dc7d2c", func := "example.com/fencerow/fencerow/internal/btree.LawS2727AOwn", spec := "lawS2727AOwn", apart := false }
def LawS2727AOwnSaid : Prop := lawS2727AOwnRow.holds Yba.pinned (OpenSpec.ofChange lawS2727AOwnSpec)

/-- ITS FALSE NEIGHBOUR: 'it returns false'. Refute it at one input. -/
def lawS2727AOwnWrong : ChangeSpec := { name := "lawS2727AOwn", fn := fun _ => fun
  | [d1, d2, d3, d4, d5] => { results := [.lit (.bool false)], args := [d1, d2, d3, d4, d5] }
  | _ => none }
def LawS2727AOwnWrongFalsely : Prop := lawS2727AOwnRow.holds Yba.pinned (OpenSpec.ofChange lawS2727AOwnWrong)

end Rows
end Go.Proofs.Ybulkbdlk
