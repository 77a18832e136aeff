import Derived.Test.YbulkbdjgDoorDec2
namespace Go.Proofs.YbulkbdjgDoor
open Go.RowKit

/-- The number was read. -/
def NumOk (D p k : Nat) (x : Int) (w : World) (e : Ending) (w' : World) : Prop :=
  e = .returned (.tuple #[.int .u64 x, .nilIface]) ∧ ∃ q, w' = (w.drewN q).setCell ⟨D, 2, none⟩ (.int .i64 ((p + (k + 1) : Nat) : Int))

set_option maxRecDepth 100000 in
set_option maxHeartbeats 400000 in
theorem num_end (D b off len cap p : Nat) (so : Option Addr) (w : World) (h : Dec w D (some ⟨b, off, none⟩) len cap p) (hlen : len ≤ 1024) (hp : p ≤ len) (_hcap : len ≤ cap)
    (hso : (if cap = p then some (⟨b, off, none⟩ : Addr) else some ⟨b, off + p, none⟩) = so)
    (hu : ∀ q, Calls Ybad.prog 15 #[.slice so (len - p) (cap - p)] (w.drewN q) fun e w' => e = .returned (.tuple #[.int .u64 0, .int .i64 0]) ∧ w' = w.drewN q) :
    Calls Ybad.prog 11 #[.pointer (some ⟨D, 0, none⟩)] w fun e w' => Failed w (.int .u64 0) ((len : Int) + 1) ⟨#[99, 117, 116, 32, 115, 104, 111, 114, 116]⟩ e w' := by
  have c1 := h.c1
  have c2 := h.c2
  have hl := h.lt
  have HH := hide h
  have HU := hide hu
  clear h hu
  go_enter Ybad.func11, Ybad.ntmps11
  go_wp2
  go_quiet ((go_at_call 15; exact Calls.quiet_of_same (HU.out _)))
  go_wp2_with (go_at_call 14; refine (ended_any D (some ⟨b, off, none⟩) len cap p _ (HH.out.drewN _) hlen).mono ?_; rintro e w' ⟨E, rfl, hE, hEs, hb⟩)
  go_ret2
  exact ⟨E, rfl, hE, by simpa using hEs, by simpa using (below_drewN (Below.refl _ _) _).trans hb⟩

set_option maxRecDepth 100000 in
set_option maxHeartbeats 400000 in
theorem num_over (D b off len cap p k : Nat) (so : Option Addr) (w : World) (h : Dec w D (some ⟨b, off, none⟩) len cap p) (hlen : len ≤ 1024) (hp : p ≤ len) (_hcap : len ≤ cap) (hk : k ≤ 10)
    (hso : (if cap = p then some (⟨b, off, none⟩ : Addr) else some ⟨b, off + p, none⟩) = so)
    (hu : ∀ q, Calls Ybad.prog 15 #[.slice so (len - p) (cap - p)] (w.drewN q) fun e w' => e = .returned (.tuple #[.int .u64 0, .int .i64 (-((k : Int) + 1))]) ∧ w' = w.drewN q) :
    Calls Ybad.prog 11 #[.pointer (some ⟨D, 0, none⟩)] w fun e w' => Failed w (.int .u64 0) ((p : Int) + 1) ⟨#[97, 32, 110, 117, 109, 98, 101, 114, 32, 98, 101, 121, 111, 110, 100, 32, 54, 52, 32, 98, 105, 116, 115]⟩ e w' := by
  have c1 := h.c1
  have c2 := h.c2
  have hl := h.lt
  have HH := hide h
  have HU := hide hu
  have m0 : (-((k : Int) + 1) == 0) = false := beq_eq_false_iff_ne.2 (by omega)
  have m1 : -((k : Int) + 1) < 0 := by omega
  clear h hu
  generalize -((k : Int) + 1) = m at *
  go_enter Ybad.func11, Ybad.ntmps11
  go_wp2
  go_quiet ((go_at_call 15; exact Calls.quiet_of_same (HU.out _)))
  go_wp2_with (go_at_call 16; refine (fail_any D (some ⟨b, off, none⟩) len cap p p _ _ (HH.out.drewN _) (by omega)).mono ?_; rintro e w' ⟨E, rfl, hE, hEs, hb⟩)
  go_ret2
  exact ⟨E, rfl, hE, by simpa using hEs, by simpa using (below_drewN (Below.refl _ _) _).trans hb⟩

set_option maxRecDepth 100000 in
set_option maxHeartbeats 400000 in
theorem num_long (D b off len cap p k : Nat) (x : Int) (so : Option Addr) (w : World) (h : Dec w D (some ⟨b, off, none⟩) len cap p) (hlen : len ≤ 1024) (hp : p + (k + 1) ≤ len) (_hcap : len ≤ cap) (hk : k ≤ 10) (hk1 : 1 ≤ k)
    (hso : (if cap = p then some (⟨b, off, none⟩ : Addr) else some ⟨b, off + p, none⟩) = so)
    (hz : w.cell? ⟨b, off + (p + k), none⟩ = some (.int .u8 0))
    (hu : ∀ q, Calls Ybad.prog 15 #[.slice so (len - p) (cap - p)] (w.drewN q) fun e w' => e = .returned (.tuple #[.int .u64 x, .int .i64 ((k : Int) + 1)]) ∧ w' = w.drewN q) :
    Calls Ybad.prog 11 #[.pointer (some ⟨D, 0, none⟩)] w fun e w' => Failed w (.int .u64 0) ((p : Int) + 1) ⟨#[97, 32, 110, 117, 109, 98, 101, 114, 32, 110, 111, 116, 32, 105, 110, 32, 105, 116, 115, 32, 115, 104, 111, 114, 116, 101, 115, 116, 32, 102, 111, 114, 109]⟩ e w' := by
  have c1 := h.c1
  have c2 := h.c2
  have hl := h.lt
  have HH := hide h
  have HU := hide hu
  have m0 : ((k : Int) + 1 == 0) = false := beq_eq_false_iff_ne.2 (by omega)
  have m1 : (1 : Int) < (k : Int) + 1 := by omega
  have i0 : ((p : Int) + ((k : Int) + 1) - 1) = ((p + k : Nat) : Int) := by omega
  clear h hu
  go_enter Ybad.func11, Ybad.ntmps11
  go_wp2
  go_quiet ((go_at_call 15; exact Calls.quiet_of_same (HU.out _)))
  go_wp2
  go_quiet (fail)
  go_wp2_with (go_at_call 16; refine (fail_any D (some ⟨b, off, none⟩) len cap p p _ _ (HH.out.drewN _) (by omega)).mono ?_; rintro e w' ⟨E, rfl, hE, hEs, hb⟩)
  go_ret2
  exact ⟨E, rfl, hE, by simpa using hEs, by simpa using (below_drewN (Below.refl _ _) _).trans hb⟩

set_option maxRecDepth 100000 in
set_option maxHeartbeats 400000 in
theorem num_one (D b off len cap p : Nat) (x : Int) (so : Option Addr) (w : World) (h : Dec w D (some ⟨b, off, none⟩) len cap p) (hlen : len ≤ 1024) (hp : p + 1 ≤ len) (_hcap : len ≤ cap)
    (hso : (if cap = p then some (⟨b, off, none⟩ : Addr) else some ⟨b, off + p, none⟩) = so)
    (hu : ∀ q, Calls Ybad.prog 15 #[.slice so (len - p) (cap - p)] (w.drewN q) fun e w' => e = .returned (.tuple #[.int .u64 x, .int .i64 1]) ∧ w' = w.drewN q) :
    Calls Ybad.prog 11 #[.pointer (some ⟨D, 0, none⟩)] w fun e w' => NumOk D p 0 x w e w' := by
  have c1 := h.c1
  have c2 := h.c2
  have hl := h.lt
  have f2 := h.free 2
  have HU := hide hu
  clear h hu
  go_enter Ybad.func11, Ybad.ntmps11
  go_wp2
  go_quiet ((go_at_call 15; exact Calls.quiet_of_same (HU.out _)))
  go_wp2
  go_quiet (fail)
  go_wp2
  go_ret2
  exact ⟨rfl, _, rfl⟩

set_option maxRecDepth 100000 in
set_option maxHeartbeats 400000 in
theorem num_ok (D b off len cap p k : Nat) (x y : Int) (so : Option Addr) (w : World) (h : Dec w D (some ⟨b, off, none⟩) len cap p) (hlen : len ≤ 1024) (hp : p + (k + 1) ≤ len) (_hcap : len ≤ cap) (hk : k ≤ 10) (hk1 : 1 ≤ k)
    (hso : (if cap = p then some (⟨b, off, none⟩ : Addr) else some ⟨b, off + p, none⟩) = so)
    (hz : w.cell? ⟨b, off + (p + k), none⟩ = some (.int .u8 y)) (hy : (y == 0) = false)
    (hu : ∀ q, Calls Ybad.prog 15 #[.slice so (len - p) (cap - p)] (w.drewN q) fun e w' => e = .returned (.tuple #[.int .u64 x, .int .i64 ((k : Int) + 1)]) ∧ w' = w.drewN q) :
    Calls Ybad.prog 11 #[.pointer (some ⟨D, 0, none⟩)] w fun e w' => NumOk D p k x w e w' := by
  have c1 := h.c1
  have c2 := h.c2
  have hl := h.lt
  have f2 := h.free 2
  have HU := hide hu
  have m0 : ((k : Int) + 1 == 0) = false := beq_eq_false_iff_ne.2 (by omega)
  have m1 : (1 : Int) < (k : Int) + 1 := by omega
  have i0 : ((p : Int) + ((k : Int) + 1) - 1) = ((p + k : Nat) : Int) := by omega
  clear h hu
  go_enter Ybad.func11, Ybad.ntmps11
  go_wp2
  go_quiet ((go_at_call 15; exact Calls.quiet_of_same (HU.out _)))
  go_wp2
  go_quiet (fail)
  go_wp2
  go_ret2
  rw [show (p : Int) + ((k : Int) + 1) = ((p + (k + 1) : Nat) : Int) by omega]
  exact ⟨rfl, _, rfl⟩
end Go.Proofs.YbulkbdjgDoor
