/-
  No cell of these rows narrows 'for every input' (looked for: loops, veiled, ifaces, maps, wideKeys, modest, calm, conditions, laid).
  DERIVED. THE GIVEN ROWS OF THIS SEAT. 1 by the template 'for every input the law returns true; each argument reads behind the call as it read before'; 0 by the template 'total and deterministic' (their statements: YbulkbdjuTotals.lean).
  GIVEN WITH THE SEED: the statements are not yours to turn. If you find one false, say at which input.
  Laid BY PROGRAM, IN A SANDBOX (cutbox-rows.mjs): the forced cells as the released guide's own fill.sh prints them over the translation 617585a2182cb4e7… (all of the seat's roots in one cut). By AI agents, Wed Nov 11 2026. No macro, syntax, notation, axiom, sorry.
-/
import Derived.Test.YbulkbdjuChecked
import GoSem.Claim
import GoSem.ClaimJoined
import GoSem.ClaimMapViews
import Derived.JoinedTies
import Derived.KernelRfl
namespace Go.Proofs.Ybulkbdju
/- THE CELL 'sum', in the pinned program and in every row, IS THE sha256 OF THE DUMP (.gsa) THAT YbulkbdjuProg.lean LOADS. Nothing in Lean hashes anything: it is a label: what it is worth is what the hold of that sum in a sandbox is worth. -/
noncomputable def Yba.pinned : Pinned := { name := "ybulkbdju", sum := "617585a2182cb4e79429b091617ad538854f5d26fb62cb56efd6a963bf0b6d88", checked := Yba.checked }
namespace Rows
def none {H : Type} : Left H := { results := [], args := [] }

/-- 'paxos.LawS2724CAsks': WHATEVER THE INPUT: true; the input reads as it did. -/
def lawS2724CAsksSpec : ChangeSpec := { name := "lawS2724CAsks", fn := fun _ => fun
  | [d1, d2, d3, d4, d5, d6] => { results := [.lit (.bool true)], args := [d1, d2, d3, d4, d5, d6] }
  | _ => none }
def lawS2724CAsksRow : OpenClaim := { program := "ybulkbdju", sum := "617585a2182cb4e79429b091617ad538854f5d26fb62cb56efd6a963bf0b6d88", func := "example.com/tenure/tenure/paxos.LawS2724CAsks", spec := "lawS2724CAsks", apart := false }
def LawS2724CAsksSaid : Prop := lawS2724CAsksRow.holds Yba.pinned (OpenSpec.ofChange lawS2724CAsksSpec)

/-- ITS FALSE NEIGHBOUR: 'it returns false'. Refute it at one input. -/
def lawS2724CAsksWrong : ChangeSpec := { name := "lawS2724CAsks", fn := fun _ => fun
  | [d1, d2, d3, d4, d5, d6] => { results := [.lit (.bool false)], args := [d1, d2, d3, d4, d5, d6] }
  | _ => none }
def LawS2724CAsksWrongFalsely : Prop := lawS2724CAsksRow.holds Yba.pinned (OpenSpec.ofChange lawS2724CAsksWrong)

end Rows
end Go.Proofs.Ybulkbdju
