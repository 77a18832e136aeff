import Derived.Test.YbulkbdjgDoorOp
import Derived.Test.YbulkbdjgDoorAs
namespace Go.Proofs.YbulkbdjgDoor
open Go.RowKit

theorem as_hit2 (e : Addr) (T : Nat) (old : Value) (w : World) (hg : w.cell? ⟨0, 0, none⟩ = some (.iface 122 (.agg #[.pointer (some ⟨3, 30, none⟩)]))) (ht0 : w.cell? ⟨T, 0, none⟩ = some old) (hf0 : w.frozen? ⟨T, 0, none⟩ = false) :
    Calls Ybad.prog 12 #[.iface 94 (.pointer (some e)), .iface 96 (.pointer (some ⟨T, 0, none⟩))] w fun ev w' => ev = .returned (.bool true) ∧ w'.cell? ⟨T, 0, none⟩ = some (.pointer (some e)) ∧ (∀ b o, b < w.heap.size → b ≠ T → w'.cell? ⟨b, o, none⟩ = w.cell? ⟨b, o, none⟩) ∧ Below T w w' := by
  have hT : T < w.heap.size := World.block_lt_of_cell? _ _ ht0
  refine (as_hit e ⟨T, 0, none⟩ old w hg ht0 hf0).mono ?_
  rintro ev w' ⟨rfl, rfl⟩
  have hb : Below w.heap.size w ((((w.alloc (.cells #[.pointer (some ⟨T, 0, none⟩)] 96)).alloc (.cells #[.pointer (some ⟨3, 96, none⟩), .pointer (some ⟨w.heap.size, 0, none⟩), .int .u64 150] 108)).alloc (.cells #[.pointer (some ⟨3, 96, none⟩), .pointer (some ⟨w.heap.size, 0, none⟩), .int .u64 150] 108)).alloc (.cells #[.pointer (some e)] 94)) :=
    ((((Below.refl _ _).alloc (Nat.le_refl _) _).alloc (by simp) _).alloc (by simp; omega) _).alloc (by simp; omega) _
  refine ⟨rfl, ?_, fun b o hbl hne => ?_, ?_⟩
  · exact World.cell?_setCell_same _ _ _ ((hb.cell (p := ⟨T, 0, none⟩) hT).trans ht0)
  · rw [World.cell?_setCell_far _ _ _ _ (by simpa using fun e => hne e.symm)]; exact hb.cell (p := ⟨b, o, none⟩) hbl
  · exact Below.setCell (p := ⟨T, 0, none⟩) (hb.mono (by omega)) (Nat.le_refl T) _

set_option maxRecDepth 100000 in
set_option maxHeartbeats 1000000 in
theorem failed_true (D : Nat) (ao : Option Addr) (len cap : Nat) (p a : Int) (E : Nat) (what : ByteArray) (w : World) (h : Dec w D ao len cap p) (hE : ErrIs w E a what)
    (hg : w.cell? ⟨0, 0, none⟩ = some (.iface 122 (.agg #[.pointer (some ⟨3, 30, none⟩)]))) :
    Calls Ybad.prog 7 #[.agg #[.slice none 0 0, .int .u64 0], .iface 94 (.pointer (some ⟨E, 0, none⟩)), .pointer (some ⟨D, 0, none⟩), .int .i64 p, .int .i64 a, .string what] w fun e w' => e = .returned (.bool true) ∧ Below w.heap.size w w' := by
  have hl := h.lt
  have c2 := h.c2
  have hEl := hE.lt
  obtain ⟨e0, e1, e2⟩ := hE
  have h0 : 0 < w.heap.size := World.block_lt_of_cell? _ _ hg
  have hgA : ((w.alloc (.cells #[.slice none 0 0, .int .u64 0] 28)).alloc (.cells #[.pointer none] 94)).cell? ⟨0, 0, none⟩ = some (.iface 122 (.agg #[.pointer (some ⟨3, 30, none⟩)])) := by
    rw [World.cell?_alloc_lt _ _ ⟨0, 0, none⟩ (by simp), World.cell?_alloc_lt _ _ ⟨0, 0, none⟩ h0]; exact hg
  have htA : ((w.alloc (.cells #[.slice none 0 0, .int .u64 0] 28)).alloc (.cells #[.pointer none] 94)).cell? ⟨w.heap.size + 1, 0, none⟩ = some (.pointer none) := by simp
  have hfA : ((w.alloc (.cells #[.slice none 0 0, .int .u64 0] 28)).alloc (.cells #[.pointer none] 94)).frozen? ⟨w.heap.size + 1, 0, none⟩ = false := by simp
  have hn1 : ∀ (W : World), (binOp .neq 22 (.slice none 0 0) (.slice none 0 0)).run Ybad.prog W = .ok (.bool false) W := fun W => by kernel_rfl
  clear h hg
  go_enter Ybad.func7, Ybad.ntmps7
  go_wp2_with fail
  refine (as_hit2 _ _ (.pointer none) _ hgA htA hfA).mono ?_
  rintro e w' ⟨rfl, d1, hk, hb⟩
  have hsz : w.heap.size < ((w.alloc (.cells #[.slice none 0 0, .int .u64 0] 28)).alloc (.cells #[.pointer none] 94)).heap.size := by simp; omega
  have kE : ∀ o, w'.cell? ⟨E, o, none⟩ = w.cell? ⟨E, o, none⟩ := fun o => by
    rw [hk E o (by omega) (by omega), World.cell?_alloc_lt _ _ _ (by simp; omega), World.cell?_alloc_lt _ _ _ (by simpa using hEl)]
  have g0 := (kE 0).trans e0
  have g1 := (kE 1).trans e1
  have g2 := (kE 2).trans e2
  have BB : Hid (Below w.heap.size w w') := (((Below.refl _ _).alloc (Nat.le_refl _) _).alloc (by simp) _).trans (hb.mono (by omega))
  clear kE hk hb hsz hgA htA hfA
  go_wp2
  go_ret
  exact ⟨rfl, BB.out⟩
end Go.Proofs.YbulkbdjgDoor
