import Derived.Test.YbulkbdjgDoorSlot
import Derived.Deep.QuietTactic
import Derived.BigQuiet
import Derived.BigRegion
import Derived.Handy
namespace Go.Proofs.YbulkbdjgDoor
open Go.RowKit

set_option maxRecDepth 100000 in
set_option maxHeartbeats 400000 in
theorem prec_zero (S R at_ : Nat) (d : Bool) (w : World) (hS : S < w.heap.size) (hR : R < w.heap.size)
    (hS1 : w.cell? ⟨S, 1, none⟩ = some (.slice (some ⟨R, 0, none⟩) 2 2))
    (hT0 : w.cell? ⟨R, 26, none⟩ = some (.int .i64 at_)) (hT1 : w.cell? ⟨R, 27, none⟩ = some (.int .i64 0)) (hT2 : w.cell? ⟨R, 28, none⟩ = some (.bool d)) :
    Calls Ybad.prog 9 #[.pointer (some ⟨S, 0, none⟩), .int .i64 0, .int .i64 1] w fun e w' => e = .returned (.bool true) ∧ Below w.heap.size w w' := by
  go_enter Ybad.func9, Ybad.ntmps9
  go_wp2
  go_region
  all_goals go_wp2
  all_goals go_ret
  all_goals exact ⟨rfl, by go_grown⟩

/-- The first slot of the row that holds lane ra decides; none: true. -/
def Scan (tab : Nat → Int × Int) (n : Nat) (ra ln : Int) (b : Bool) : Prop :=
  (∃ j, j < n ∧ (tab j).1 = ra ∧ b = decide (ln ≤ (tab j).2) ∧ ∀ i, i < j → (tab i).1 ≠ ra) ∨ ((∀ j, j < n → (tab j).1 ≠ ra) ∧ b = true)

set_option maxRecDepth 100000 in
set_option maxHeartbeats 400000 in
theorem prec_scan (S R C at_ sl n cap : Nat) (d : Bool) (ra ln : Int) (tab : Nat → Int × Int) (w : World) (hS : S < w.heap.size) (hR : R < w.heap.size) (hC : C < w.heap.size)
    (hsl1 : 1 ≤ sl) (hsl8 : sl ≤ 8) (hn : at_ + sl ≤ n) (hcap : n ≤ cap) (hat : at_ ≤ 2)
    (hS1 : w.cell? ⟨S, 1, none⟩ = some (.slice (some ⟨R, 0, none⟩) 2 2)) (hS10 : w.cell? ⟨S, 10, none⟩ = some (.slice (some ⟨C, 0, none⟩) n cap))
    (hR2 : w.cell? ⟨R, 2, none⟩ = some (.int .i64 ra)) (hR3 : w.cell? ⟨R, 3, none⟩ = some (.int .i64 ln))
    (hT0 : w.cell? ⟨R, 26, none⟩ = some (.int .i64 at_)) (hT1 : w.cell? ⟨R, 27, none⟩ = some (.int .i64 sl)) (hT2 : w.cell? ⟨R, 28, none⟩ = some (.bool d))
    (hc0 : ∀ j, j < sl → w.cell? ⟨C, 2 * at_ + 2 * j, none⟩ = some (.int .i64 (tab j).1)) (hc1 : ∀ j, j < sl → w.cell? ⟨C, 2 * at_ + 2 * j + 1, none⟩ = some (.int .i64 (tab j).2)) :
    Calls Ybad.prog 9 #[.pointer (some ⟨S, 0, none⟩), .int .i64 0, .int .i64 1] w fun e w' => (∃ b, e = .returned (.bool b) ∧ Scan tab sl ra ln b) ∧ Below w.heap.size w w' := by
  have hsl0 : ((sl : Int) == 0) = false := by simp; omega
  have hsl8' : decide ((sl : Int) ≤ 8) = true := by simp; omega
  have Hc0 := hide hc0
  have Hc1 := hide hc1
  clear hc0 hc1
  go_enter Ybad.func9, Ybad.ntmps9
  go_wp2
  go_region
  all_goals go_wp2
  go_quiet (fail)
  go_wp2
  go_loopw [49] (fun i wr => ∃ k : Nat, k ≤ sl ∧ i = .int .i64 k ∧ Hid (∀ i, i < k → (tab i).1 ≠ ra) ∧ w.heap.size < wr.heap.size ∧ Below w.heap.size w wr) (fun i _ => sl - (intOf i).toNat)
  case atStart => exact ⟨0, Nat.zero_le _, rfl, hide (fun i h => absurd h (Nat.not_lt_zero i)), by simp, below_drewN (by go_grown) _⟩
  case round =>
    obtain ⟨k, hk, rfl, hno, hlt, hb⟩ := hrel
    have gR2 : wr.cell? ⟨R, 2, none⟩ = some (.int .i64 ra) := (hb.cell (p := ⟨R, 2, none⟩) hR).trans hR2
    have gR3 : wr.cell? ⟨R, 3, none⟩ = some (.int .i64 ln) := (hb.cell (p := ⟨R, 3, none⟩) hR).trans hR3
    have hRr : R < wr.heap.size := by omega
    have hCr : C < wr.heap.size := by omega
    by_cases hkl : k < sl
    · have g0 : wr.cell? ⟨C, at_ * 2 + k * 2, none⟩ = some (.int .i64 (tab k).1) := by
        have := (hb.cell (p := ⟨C, 2 * at_ + 2 * k, none⟩) hC).trans (Hc0.out k hkl)
        rw [show at_ * 2 + k * 2 = 2 * at_ + 2 * k from by omega]; exact this
      have g1 : wr.cell? ⟨C, at_ * 2 + k * 2 + 1, none⟩ = some (.int .i64 (tab k).2) := by
        have := (hb.cell (p := ⟨C, 2 * at_ + 2 * k + 1, none⟩) hC).trans (Hc1.out k hkl)
        rw [show at_ * 2 + k * 2 + 1 = 2 * at_ + 2 * k + 1 from by omega]; exact this
      by_cases hit : (tab k).1 = ra
      · have hit' : ((tab k).1 == ra) = true := by simp [hit]
        have HH := hide hit
        clear hit
        go_wp2
        go_quiet (fail)
        go_wp2
        go_quiet (fail)
        go_wp2
        go_ret
        exact ⟨⟨_, rfl, Or.inl ⟨k, hkl, HH.out, rfl, hno.out⟩⟩, below_drewN (below_drewN (by go_grown) _) _⟩
      · have hit' : ((tab k).1 == ra) = false := by simp [hit]
        have HH := hide hit
        clear hit
        go_wp2
        go_quiet (fail)
        go_wp2
        go_roundw
        case rel =>
          exact ⟨k + 1, hkl, by go_num, hide (lt_succ_all hno.out HH.out), by simp; omega, below_drewN (by go_grown) _⟩
        case measure => simp [intOf]; omega
    · go_wp2
      go_ret
      have : k = sl := by omega
      subst this
      exact ⟨⟨_, rfl, Or.inr ⟨hno.out, rfl⟩⟩, hb⟩
end Go.Proofs.YbulkbdjgDoor
