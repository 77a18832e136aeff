import Derived.Test.YbulkbdjgDoorDec3
import Derived.Deep.RegionHeld
namespace Go.Proofs.YbulkbdjgDoor
open Go.RowKit

/-- opID refused: the zero id, an error, the decoder's place at q. -/
def OpBad (D : Nat) (ao : Option Addr) (len cap : Nat) (q : Int) (w : World) (a : Int) (what : ByteArray) (e : Ending) (w' : World) : Prop :=
  ∃ E, e = .returned (.tuple #[.agg #[.slice none 0 0, .int .u64 0], .iface 94 (.pointer (some ⟨E, 0, none⟩))]) ∧ ErrIs w' E a what ∧ D < E ∧ E < w'.heap.size ∧ Dec w' D ao len cap q ∧ Below D w w'

theorem ErrIs.lt {w : World} {E : Nat} {a : Int} {what : ByteArray} (h : ErrIs w E a what) : E < w.heap.size := World.block_lt_of_cell? _ _ h.c0
theorem ErrIs.set {w : World} {E : Nat} {a : Int} {what : ByteArray} (h : ErrIs w E a what) {R : Nat} (hR : R ≠ E) (j : Nat) (v : Value) : ErrIs (w.setCell ⟨R, j, none⟩ v) E a what where
  c0 := (World.cell?_setCell_far w ⟨R, j, none⟩ ⟨E, 0, none⟩ v hR).trans h.c0
  c1 := (World.cell?_setCell_far w ⟨R, j, none⟩ ⟨E, 1, none⟩ v hR).trans h.c1
  c2 := (World.cell?_setCell_far w ⟨R, j, none⟩ ⟨E, 2, none⟩ v hR).trans h.c2
theorem Dec.set {w : World} {D : Nat} {ao : Option Addr} {len cap : Nat} {p : Int} (h : Dec w D ao len cap p) {R : Nat} (hR : R ≠ D) (j : Nat) (v : Value) : Dec (w.setCell ⟨R, j, none⟩ v) D ao len cap p where
  c0 := (World.cell?_setCell_far w ⟨R, j, none⟩ ⟨D, 0, none⟩ v hR).trans h.c0
  c1 := (World.cell?_setCell_far w ⟨R, j, none⟩ ⟨D, 1, none⟩ v hR).trans h.c1
  c2 := (World.cell?_setCell_far w ⟨R, j, none⟩ ⟨D, 2, none⟩ v hR).trans h.c2
  free i := by simp [h.free i]
  lt := by simpa using h.lt

set_option maxRecDepth 100000 in
set_option maxHeartbeats 400000 in
theorem op_bad1 (D : Nat) (ao : Option Addr) (len cap : Nat) (q : Int) (a : Int) (what : ByteArray) (w : World) (h : Dec w D ao len cap q)
    (hs : Calls Ybad.prog 10 #[.pointer (some ⟨D, 0, none⟩)] (w.alloc (.cells #[.slice none 0 0, .int .u64 0] 28)) fun e w' => Failed (w.alloc (.cells #[.slice none 0 0, .int .u64 0] 28)) (.slice none 0 0) a what e w') :
    Calls Ybad.prog 6 #[.pointer (some ⟨D, 0, none⟩)] w fun e w' => OpBad D ao len cap q w a what e w' := by
  have hl := h.lt
  have HH := hide h
  have HS := hide hs
  clear h hs
  go_enter Ybad.func6, Ybad.ntmps6
  go_wp2_with (go_at_call 10; refine HS.out.mono ?_; rintro e w' ⟨E, rfl, hE, hEs, hb⟩; have r0 := (hb.cell (p := ⟨w.heap.size, 0, none⟩) (by simp)).trans (show _ = some (.slice none 0 0) by simp); have r1 := (hb.cell (p := ⟨w.heap.size, 1, none⟩) (by simp)).trans (show _ = some (.int .u64 0) by simp); have f0 := (hb.frozen (p := ⟨w.heap.size, 0, none⟩) (by simp)).trans (show _ = false by simp); have f1 := (hb.frozen (p := ⟨w.heap.size, 1, none⟩) (by simp)).trans (show _ = false by simp))
  have hEs' : w.heap.size + 1 ≤ E := by simpa using hEs
  refine bodyPost_ret (v := .tuple #[.agg #[.slice none 0 0, .int .u64 0], .iface 94 (.pointer (some ⟨E, 0, none⟩))]) (by simp [results, Ybad.results6, go_sem, r0, r1]) rfl ⟨E, rfl, (hE.set (by omega) _ _).set (by omega) _ _, by omega, by have := hE.lt; simpa using this, ?_, ?_⟩
  · exact (((HH.out.below ((Below.refl _ _).alloc (Nat.le_refl _) _) hl).below hb (by simp; omega)).set (by omega) _ _).set (by omega) _ _
  · exact ((((Below.refl _ _).alloc (by omega) _).trans (hb.mono (by simp; omega))).setCell (p := ⟨w.heap.size, 0, none⟩) (by simp; omega) _).setCell (p := ⟨w.heap.size, 1, none⟩) (by simp; omega) _

set_option maxRecDepth 100000 in
set_option maxHeartbeats 400000 in
theorem op_bad2 (D b off len cap p n : Nat) (a : Int) (what : ByteArray) (w : World) (h : Dec w D (some ⟨b, off, none⟩) len cap p)
    (hs : Calls Ybad.prog 10 #[.pointer (some ⟨D, 0, none⟩)] (w.alloc (.cells #[.slice none 0 0, .int .u64 0] 28)) fun e w' => SiteOk D b off p n (w.alloc (.cells #[.slice none 0 0, .int .u64 0] 28)) e w')
    (hu : ∀ w2, Dec w2 D (some ⟨b, off, none⟩) len cap ((p + 1 + n : Nat) : Int) → Below D w w2 → Calls Ybad.prog 11 #[.pointer (some ⟨D, 0, none⟩)] w2 fun e w' => Failed w2 (.int .u64 0) a what e w') :
    Calls Ybad.prog 6 #[.pointer (some ⟨D, 0, none⟩)] w fun e w' => OpBad D (some ⟨b, off, none⟩) len cap ((p + 1 + n : Nat) : Int) w a what e w' := by
  have hl := h.lt
  have HH := hide h
  have HS := hide hs
  have HU := hide hu
  clear h hs hu
  have hbw : Below D w (w.alloc (.cells #[.slice none 0 0, .int .u64 0] 28)) := (Below.refl _ _).alloc (by omega) _
  have HB := hide hbw
  have HD : Hid (Dec (w.alloc (.cells #[.slice none 0 0, .int .u64 0] 28)) D (some ⟨b, off, none⟩) len cap p) := HH.out.below ((Below.refl _ _).alloc (Nat.le_refl _) _) hl
  clear hbw
  go_enter Ybad.func6, Ybad.ntmps6
  go_wp2_with fail
  refine HS.out.mono ?_
  rintro e w2 ⟨⟨so, c, rfl, hso⟩, q, hw2⟩
  have D2 : Dec w2 D (some ⟨b, off, none⟩) len cap ((p + 1 + n : Nat) : Int) := by rw [hw2]; exact (HD.out.drewN q).store
  have B2 : Below D w w2 := by rw [hw2]; exact Below.setCell (p := ⟨D, 2, none⟩) (below_drewN HB.out q) (Nat.le_refl D) _
  have hz2 : w2.heap.size = w.heap.size + 1 := by rw [hw2]; simp
  have q0 : w2.cell? ⟨w.heap.size, 0, none⟩ = some (.slice none 0 0) := by
    rw [hw2, World.cell?_setCell_far _ _ _ _ (by simp; omega)]; simp
  have q1 : w2.cell? ⟨w.heap.size, 1, none⟩ = some (.int .u64 0) := by
    rw [hw2, World.cell?_setCell_far _ _ _ _ (by simp; omega)]; simp
  have p0 : w2.frozen? ⟨w.heap.size, 0, none⟩ = false := by rw [hw2]; simp
  have p1 : w2.frozen? ⟨w.heap.size, 1, none⟩ = false := by rw [hw2]; simp
  have HU2 := hide (HU.out w2 D2 B2)
  clear hw2
  have D2H := hide D2
  have B2H := hide B2
  have Z2H := hide hz2
  have hz2' : w.heap.size < w2.heap.size := by omega
  clear D2 B2 hz2
  go_wp2_with (go_at_call 11; refine HU2.out.mono ?_; rintro e w' ⟨E, rfl, hE, hEs, hb⟩; have r0 := (hb.cell (p := ⟨w.heap.size, 0, none⟩) hz2').trans q0; have r1 := (hb.cell (p := ⟨w.heap.size, 1, none⟩) hz2').trans q1; have f0 := (hb.frozen (p := ⟨w.heap.size, 0, none⟩) hz2').trans p0; have f1 := (hb.frozen (p := ⟨w.heap.size, 1, none⟩) hz2').trans p1)
  have hDw2 := D2H.out.lt
  refine bodyPost_ret (v := .tuple #[.agg #[.slice none 0 0, .int .u64 0], .iface 94 (.pointer (some ⟨E, 0, none⟩))]) (by simp [results, Ybad.results6, go_sem, r0, r1]) rfl ⟨E, rfl, (hE.set (by omega) _ _).set (by omega) _ _, by omega, by have := hE.lt; simpa using this, ?_, ?_⟩
  · exact ((D2H.out.below hb hDw2).set (by omega) _ _).set (by omega) _ _
  · exact ((B2H.out.trans (hb.mono (by omega))).setCell (p := ⟨w.heap.size, 0, none⟩) (by simp; omega) _).setCell (p := ⟨w.heap.size, 1, none⟩) (by simp; omega) _

/-- opID read an id. -/
def OpGood (D b off len cap p n : Nat) (x : Int) (q : Nat) (w : World) (e : Ending) (w' : World) : Prop :=
  (∃ so c, e = .returned (.tuple #[.agg #[.slice so n c, .int .u64 x], .nilIface]) ∧ (0 < n → so = some ⟨b, off + (p + 1), none⟩)) ∧ Dec w' D (some ⟨b, off, none⟩) len cap (q : Int) ∧ Below D w w'

set_option maxRecDepth 100000 in
set_option maxHeartbeats 400000 in
theorem op_good (D b off len cap p n k : Nat) (x : Int) (w : World) (h : Dec w D (some ⟨b, off, none⟩) len cap p)
    (hs : Calls Ybad.prog 10 #[.pointer (some ⟨D, 0, none⟩)] (w.alloc (.cells #[.slice none 0 0, .int .u64 0] 28)) fun e w' => SiteOk D b off p n (w.alloc (.cells #[.slice none 0 0, .int .u64 0] 28)) e w')
    (hu : ∀ w2, Dec w2 D (some ⟨b, off, none⟩) len cap ((p + 1 + n : Nat) : Int) → Below D w w2 → Calls Ybad.prog 11 #[.pointer (some ⟨D, 0, none⟩)] w2 fun e w' => NumOk D (p + 1 + n) k x w2 e w') :
    Calls Ybad.prog 6 #[.pointer (some ⟨D, 0, none⟩)] w fun e w' => OpGood D b off len cap p n x (p + 1 + n + (k + 1)) w e w' := by
  have hl := h.lt
  have HH := hide h
  have HS := hide hs
  have HU := hide hu
  clear h hs hu
  have hbw : Below D w (w.alloc (.cells #[.slice none 0 0, .int .u64 0] 28)) := (Below.refl _ _).alloc (by omega) _
  have HB := hide hbw
  have HD : Hid (Dec (w.alloc (.cells #[.slice none 0 0, .int .u64 0] 28)) D (some ⟨b, off, none⟩) len cap p) := HH.out.below ((Below.refl _ _).alloc (Nat.le_refl _) _) hl
  clear hbw
  go_enter Ybad.func6, Ybad.ntmps6
  go_wp2_with fail
  refine HS.out.mono ?_
  rintro e w2 ⟨⟨so, c, rfl, hso⟩, q, hw2⟩
  have D2 : Dec w2 D (some ⟨b, off, none⟩) len cap ((p + 1 + n : Nat) : Int) := by rw [hw2]; exact (HD.out.drewN q).store
  have B2 : Below D w w2 := by rw [hw2]; exact Below.setCell (p := ⟨D, 2, none⟩) (below_drewN HB.out q) (Nat.le_refl D) _
  have hz2 : w2.heap.size = w.heap.size + 1 := by rw [hw2]; simp
  have q0 : w2.cell? ⟨w.heap.size, 0, none⟩ = some (.slice none 0 0) := by
    rw [hw2, World.cell?_setCell_far _ _ _ _ (by simp; omega)]; simp
  have q1 : w2.cell? ⟨w.heap.size, 1, none⟩ = some (.int .u64 0) := by
    rw [hw2, World.cell?_setCell_far _ _ _ _ (by simp; omega)]; simp
  have p0 : w2.frozen? ⟨w.heap.size, 0, none⟩ = false := by rw [hw2]; simp
  have p1 : w2.frozen? ⟨w.heap.size, 1, none⟩ = false := by rw [hw2]; simp
  have HU2 := hide (HU.out w2 D2 B2)
  clear hw2
  have D2H := hide D2
  have B2H := hide B2
  have SO := hide hso
  clear D2 B2 hso
  go_wp2_with fail
  refine HU2.out.mono ?_
  rintro e w3 ⟨rfl, q', hw3⟩
  have D3 : Dec w3 D (some ⟨b, off, none⟩) len cap ((p + 1 + n + (k + 1) : Nat) : Int) := by rw [hw3]; exact (D2H.out.drewN q').store
  have B3 : Below D w w3 := by rw [hw3]; exact Below.setCell (p := ⟨D, 2, none⟩) (below_drewN B2H.out q') (Nat.le_refl D) _
  have r0 : w3.cell? ⟨w.heap.size, 0, none⟩ = some (.slice none 0 0) := by
    rw [hw3, World.cell?_setCell_far _ _ _ _ (by simp; omega)]; exact q0
  have r1 : w3.cell? ⟨w.heap.size, 1, none⟩ = some (.int .u64 0) := by
    rw [hw3, World.cell?_setCell_far _ _ _ _ (by simp; omega)]; exact q1
  have f0 : w3.frozen? ⟨w.heap.size, 0, none⟩ = false := by rw [hw3]; simpa using p0
  have f1 : w3.frozen? ⟨w.heap.size, 1, none⟩ = false := by rw [hw3]; simpa using p1
  have hz3 : w3.heap.size = w.heap.size + 1 := by rw [hw3]; simpa using hz2
  clear hw3 q0 q1 p0 p1 hz2
  have D3H := hide D3
  have B3H := hide B3
  have Z3H := hide hz3
  clear D3 B3 hz3
  go_wp2
  refine bodyPost_ret (v := .tuple #[.agg #[.slice so n c, .int .u64 x], .nilIface]) (by simp [results, Ybad.results6, go_sem, r0, r1]) rfl ⟨⟨so, c, rfl, SO.out⟩, ?_, ?_⟩
  · exact (D3H.out.set (by omega) _ _).set (by omega) _ _
  · exact (B3H.out.setCell (p := ⟨w.heap.size, 0, none⟩) (by simp; omega) _).setCell (p := ⟨w.heap.size, 1, none⟩) (by simp; omega) _
end Go.Proofs.YbulkbdjgDoor
