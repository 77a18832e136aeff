import Derived.Test.YbulkbdjgDoorDec
namespace Go.Proofs.YbulkbdjgDoor
open Go.RowKit

/-- An error came back beside a zero value v. -/
def Failed (w : World) (v : Value) (a : Int) (what : ByteArray) (e : Ending) (w' : World) : Prop :=
  ∃ E, e = .returned (.tuple #[v, .iface 94 (.pointer (some ⟨E, 0, none⟩))]) ∧ ErrIs w' E a what ∧ w.heap.size ≤ E ∧ Below w.heap.size w w'

/-- The name was read: the n bytes behind place p. -/
def SiteOk (D b off p n : Nat) (w : World) (e : Ending) (w' : World) : Prop :=
  (∃ so c, e = .returned (.tuple #[.slice so n c, .nilIface]) ∧ (0 < n → so = some ⟨b, off + (p + 1), none⟩)) ∧
      ∃ q, w' = (w.drewN q).setCell ⟨D, 2, none⟩ (.int .i64 ((p + 1 + n : Nat) : Int))
theorem ret_site {so : Option Addr} {c l n : Nat} (h : l = n) : Ending.returned (.tuple #[.slice so l c, .nilIface]) = .returned (.tuple #[.slice so n c, .nilIface]) := by rw [h]
theorem Dec.store {w : World} {D : Nat} {ao : Option Addr} {len cap : Nat} {p q : Int} (h : Dec w D ao len cap p) : Dec (w.setCell ⟨D, 2, none⟩ (.int .i64 q)) D ao len cap q where
  c0 := by rw [World.cell?_setCell_other _ _ _ _ (by simp)]; exact h.c0
  c1 := by rw [World.cell?_setCell_other _ _ _ _ (by simp)]; exact h.c1
  c2 := World.cell?_setCell_same _ _ _ h.c2
  free j := by simp [h.free j]
  lt := by simpa using h.lt
theorem Dec.drewN {w : World} {D : Nat} {ao : Option Addr} {len cap : Nat} {p : Int} (h : Dec w D ao len cap p) (k : Nat) : Dec (w.drewN k) D ao len cap p := ⟨h.c0, h.c1, h.c2, h.free, h.lt⟩

set_option maxRecDepth 100000 in
set_option maxHeartbeats 400000 in
theorem site_end (D : Nat) (ao : Option Addr) (len cap : Nat) (w : World) (h : Dec w D ao len cap len) (hlen : len ≤ 1024) :
    Calls Ybad.prog 10 #[.pointer (some ⟨D, 0, none⟩)] w fun e w' => Failed w (.slice none 0 0) ((len : Int) + 1) ⟨#[99, 117, 116, 32, 115, 104, 111, 114, 116]⟩ e w' := by
  have c1 := h.c1
  have c2 := h.c2
  have hl := h.lt
  have HH := hide h
  clear h
  go_enter Ybad.func10, Ybad.ntmps10
  go_wp2
  go_quiet (fail)
  go_wp2_with (go_at_call 14; refine (ended_any D ao len cap len _ (HH.out.drewN _) hlen).mono ?_; rintro e w' ⟨E, rfl, hE, hEs, hb⟩)
  go_ret2
  exact ⟨E, rfl, hE, by simpa using hEs, by simpa using (below_drewN (Below.refl _ _) _).trans hb⟩

set_option maxRecDepth 100000 in
set_option maxHeartbeats 400000 in
theorem site_short (D b off len cap p : Nat) (n : Nat) (w : World) (h : Dec w D (some ⟨b, off, none⟩) len cap p) (hlen : len ≤ 1024) (hp : p < len) (_hcap : len ≤ cap)
    (hz : w.cell? ⟨b, off + p, none⟩ = some (.int .u8 n)) (hn : n < 256) (hsh : len - p - 1 < n) :
    Calls Ybad.prog 10 #[.pointer (some ⟨D, 0, none⟩)] w fun e w' => Failed w (.slice none 0 0) ((len : Int) + 1) ⟨#[99, 117, 116, 32, 115, 104, 111, 114, 116]⟩ e w' := by
  have c1 := h.c1
  have c2 := h.c2
  have hl := h.lt
  have HH := hide h
  have e1 : ((p : Int) == len) = false := beq_eq_false_iff_ne.2 (by omega)
  clear h
  go_enter Ybad.func10, Ybad.ntmps10
  go_wp2
  go_quiet (fail)
  go_wp2
  go_quiet (fail)
  go_wp2
  go_quiet (fail)
  go_wp2_with (go_at_call 14; refine (ended_any D (some ⟨b, off, none⟩) len cap p _ (HH.out.drewN _) hlen).mono ?_; rintro e w' ⟨E, rfl, hE, hEs, hb⟩)
  go_ret2
  exact ⟨E, rfl, hE, by simpa using hEs, by simpa using (below_drewN (Below.refl _ _) _).trans hb⟩

set_option maxRecDepth 100000 in
set_option maxHeartbeats 400000 in
theorem site_ok (D b off len cap p : Nat) (n : Nat) (w : World) (h : Dec w D (some ⟨b, off, none⟩) len cap p) (hlen : len ≤ 1024) (hp : p < len) (hcap : len ≤ cap)
    (hz : w.cell? ⟨b, off + p, none⟩ = some (.int .u8 n)) (hn : n < 256) (hsh : p + 1 + n ≤ len) :
    Calls Ybad.prog 10 #[.pointer (some ⟨D, 0, none⟩)] w fun e w' => SiteOk D b off p n w e w' := by
  by_cases hcp : cap = p + 1
  · subst hcp
    have c1 := h.c1
    have c2 := h.c2
    have hl := h.lt
    have f2 := h.free 2
    have e1 : ((p : Int) == len) = false := beq_eq_false_iff_ne.2 (by omega)
    clear h
    go_enter Ybad.func10, Ybad.ntmps10
    go_wp2
    go_quiet (fail)
    go_wp2
    go_quiet (fail)
    go_wp2
    go_quiet (fail)
    go_wp2
    go_quiet (fail)
    go_wp2
    go_ret2
    rw [show (p : Int) + (1 + n) = ((p + 1 + n : Nat) : Int) by omega]
    exact ⟨⟨_, _, ret_site (by omega), fun h => by omega⟩, _, rfl⟩
  · have c1 := h.c1
    have c2 := h.c2
    have hl := h.lt
    have f2 := h.free 2
    have e1 : ((p : Int) == len) = false := beq_eq_false_iff_ne.2 (by omega)
    clear h
    go_enter Ybad.func10, Ybad.ntmps10
    go_wp2
    go_quiet (fail)
    go_wp2
    go_quiet (fail)
    go_wp2
    go_quiet (fail)
    go_wp2
    go_quiet (fail)
    go_wp2
    go_ret2
    rw [show (p : Int) + (1 + n) = ((p + 1 + n : Nat) : Int) by omega]
    exact ⟨⟨_, _, ret_site (by omega), fun _ => rfl⟩, _, rfl⟩
end Go.Proofs.YbulkbdjgDoor
