import Derived.Test.YbulkbdjgDoorUv
import Derived.Deep.QuietTactic
import Derived.BigQuiet
import Derived.BigRegion
import Derived.Handy
namespace Go.Proofs.YbulkbdjgDoor
open Go.RowKit

/-- The decodeError in block E. -/
structure ErrIs (w : World) (E : Nat) (a : Int) (what : ByteArray) : Prop where
  c0 : w.cell? ⟨E, 0, none⟩ = some (.string ⟨#[102]⟩)
  c1 : w.cell? ⟨E, 1, none⟩ = some (.int .i64 a)
  c2 : w.cell? ⟨E, 2, none⟩ = some (.string what)
/-- The decoder in block D. -/
structure Dec (w : World) (D : Nat) (ao : Option Addr) (len cap : Nat) (p : Int) : Prop where
  c0 : w.cell? ⟨D, 0, none⟩ = some (.string ⟨#[102]⟩)
  c1 : w.cell? ⟨D, 1, none⟩ = some (.slice ao len cap)
  c2 : w.cell? ⟨D, 2, none⟩ = some (.int .i64 p)
  free : ∀ j, w.frozen? ⟨D, j, none⟩ = false
  lt : D < w.heap.size
theorem Dec.below {w w' : World} {D : Nat} {ao : Option Addr} {len cap : Nat} {p : Int} (h : Dec w D ao len cap p) {B : Nat} (hb : Below B w w') (hB : D < B) : Dec w' D ao len cap p where
  c0 := (hb.cell (p := ⟨D, 0, none⟩) hB).trans h.c0
  c1 := (hb.cell (p := ⟨D, 1, none⟩) hB).trans h.c1
  c2 := (hb.cell (p := ⟨D, 2, none⟩) hB).trans h.c2
  free j := (hb.frozen (p := ⟨D, j, none⟩) hB).trans (h.free j)
  lt := Nat.lt_of_lt_of_le h.lt hb.size

set_option maxRecDepth 100000 in
set_option maxHeartbeats 400000 in
theorem ended_any (D : Nat) (ao : Option Addr) (len cap : Nat) (p : Int) (w : World) (h : Dec w D ao len cap p) (hlen : len ≤ 1024) :
    Calls Ybad.prog 14 #[.pointer (some ⟨D, 0, none⟩)] w fun e w' => ∃ E, e = .returned (.iface 94 (.pointer (some ⟨E, 0, none⟩))) ∧ ErrIs w' E ((len : Int) + 1) ⟨#[99, 117, 116, 32, 115, 104, 111, 114, 116]⟩ ∧ w.heap.size ≤ E ∧ Below w.heap.size w w' := by
  have c0 := h.c0
  have c1 := h.c1
  have hl := h.lt
  clear h
  go_enter Ybad.func14, Ybad.ntmps14
  go_wp2
  go_region
  all_goals go_wp2
  all_goals go_ret
  all_goals exact ⟨_, rfl, ⟨by simp, by simp, by simp⟩, Nat.le_refl _, by go_grown⟩

set_option maxRecDepth 100000 in
set_option maxHeartbeats 400000 in
theorem fail_any (D : Nat) (ao : Option Addr) (len cap : Nat) (p : Int) (a : Nat) (what : ByteArray) (w : World) (h : Dec w D ao len cap p) (ha : a ≤ 2000) :
    Calls Ybad.prog 16 #[.pointer (some ⟨D, 0, none⟩), .int .i64 a, .string what] w fun e w' => ∃ E, e = .returned (.iface 94 (.pointer (some ⟨E, 0, none⟩))) ∧ ErrIs w' E ((a : Int) + 1) what ∧ w.heap.size ≤ E ∧ Below w.heap.size w w' := by
  have c0 := h.c0
  have hl := h.lt
  clear h
  go_enter Ybad.func16, Ybad.ntmps16
  go_wp2
  go_ret
  exact ⟨_, rfl, ⟨by simp, by simp, by simp⟩, Nat.le_refl _, by go_grown⟩
end Go.Proofs.YbulkbdjgDoor
