import Derived.Test.YbulkbdjgDoorReady
import Derived.Deep.DeepCutAuto
import Derived.Deep.CutBlock
import Derived.BigRegion
import Derived.Handy
namespace Go.Proofs.YbulkbdjgDoor
open Go.RowKit

/-- A block of a code, by its number. -/
def findBlock (n : Nat) : Code → Option Code
  | .block m c => if m = n then some (.block m c) else findBlock n c
  | .seq a b => match findBlock n a with
    | some c => some c
    | none => findBlock n b
  | .scope c => findBlock n c
  | .loop c => findBlock n c
  | .cond _ a b => match findBlock n a with
    | some c => some c
    | none => findBlock n b
  | _ => none
theorem Ybad.info44 : (Ybad.prog.info? 44).map (fun i => (i.zero, i.size, i.bytes)) = some (some (.agg #[.int .i64 0, .int .i64 0]), 2, 16) := by kernel_rfl
theorem Ybad.info3 : (Ybad.prog.info? 3).map (fun i => (i.zero, i.size, i.bytes)) = some (some (.int .i64 0), 1, 8) := by kernel_rfl

/-- What block 6 leaves. -/
def Blk6Rel (B t g k : Nat) (w : World) (es : List (Int × Int)) (s22 : Value) (wd : World) : Prop :=
  ∃ (cs : List (Int × Int)) (sl : Nat) (dn : Bool), s22 = .slice (some ⟨g, 0, none⟩) cs.length (k + 64) ∧ Cuts B w wd es g (k + 64) cs ∧ TBox B g wd t k sl dn ∧ Ready es cs k sl dn

end Go.Proofs.YbulkbdjgDoor
