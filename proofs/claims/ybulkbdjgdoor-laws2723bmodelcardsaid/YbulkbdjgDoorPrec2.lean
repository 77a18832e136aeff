import Derived.Test.YbulkbdjgDoorPrec
namespace Go.Proofs.YbulkbdjgDoor
open Go.RowKit

set_option maxRecDepth 100000 in
set_option maxHeartbeats 400000 in
theorem prec_dense (S R C at_ sl n cap : Nat) (ra ln lo : Int) (tab : Nat → Int × Int) (w : World) (hS : S < w.heap.size) (hR : R < w.heap.size) (hC : C < w.heap.size)
    (hsl9 : 9 ≤ sl) (hn : at_ + sl ≤ n) (hcap : n ≤ cap) (hat : at_ ≤ 2) (hcap2 : cap ≤ 100) (hra0 : 0 ≤ ra) (hra1 : ra < 80) (hlo0 : 0 ≤ lo) (hlo1 : lo < 64)
    (hS1 : w.cell? ⟨S, 1, none⟩ = some (.slice (some ⟨R, 0, none⟩) 2 2)) (hS10 : w.cell? ⟨S, 10, none⟩ = some (.slice (some ⟨C, 0, none⟩) n cap))
    (hR2 : w.cell? ⟨R, 2, none⟩ = some (.int .i64 ra)) (hR3 : w.cell? ⟨R, 3, none⟩ = some (.int .i64 ln))
    (hT0 : w.cell? ⟨R, 26, none⟩ = some (.int .i64 at_)) (hT1 : w.cell? ⟨R, 27, none⟩ = some (.int .i64 sl)) (hT2 : w.cell? ⟨R, 28, none⟩ = some (.bool true))
    (hlo : w.cell? ⟨C, at_ * 2, none⟩ = some (.int .i64 lo))
    (hc0 : ∀ j, j < sl → w.cell? ⟨C, 2 * at_ + 2 * j, none⟩ = some (.int .i64 (tab j).1)) (hc1 : ∀ j, j < sl → w.cell? ⟨C, 2 * at_ + 2 * j + 1, none⟩ = some (.int .i64 (tab j).2)) :
    Calls Ybad.prog 9 #[.pointer (some ⟨S, 0, none⟩), .int .i64 0, .int .i64 1] w fun e w' =>
      (∃ b, e = .returned (.bool b) ∧ (((ra < lo ∨ lo + sl ≤ ra) ∧ b = true) ∨ (∃ j, j < sl ∧ ra = lo + j ∧ (((tab j).1 ≠ ra ∧ b = true) ∨ ((tab j).1 = ra ∧ b = decide (ln ≤ (tab j).2)))))) ∧ Below w.heap.size w w' := by
  have hsl0 : ((sl : Int) == 0) = false := by simp; omega
  have hsl8' : decide ((sl : Int) ≤ 8) = false := by simp; omega
  have Hc0 := hide hc0
  have Hc1 := hide hc1
  clear hc0 hc1
  by_cases c1 : ra < lo
  · have c1' : decide (ra - lo < 0) = true := by simp; omega
    go_enter Ybad.func9, Ybad.ntmps9
    go_wp2
    go_region
    all_goals go_wp2
    go_quiet (fail)
    go_wp2
    go_quiet (fail)
    go_wp2
    go_quiet (fail)
    go_wp2
    go_ret
    exact ⟨⟨_, rfl, Or.inl ⟨Or.inl c1, rfl⟩⟩, below_drewN (below_drewN (below_drewN (by go_grown) _) _) _⟩
  · have c1' : decide (ra - lo < 0) = false := by simp; omega
    by_cases c2 : lo + sl ≤ ra
    · have c2' : decide ((sl : Int) ≤ ra - lo) = true := by simp; omega
      go_enter Ybad.func9, Ybad.ntmps9
      go_wp2
      go_region
      all_goals go_wp2
      go_quiet (fail)
      go_wp2
      go_quiet (fail)
      go_wp2
      go_quiet (fail)
      go_wp2
      go_ret
      exact ⟨⟨_, rfl, Or.inl ⟨Or.inr c2, rfl⟩⟩, below_drewN (below_drewN (below_drewN (by go_grown) _) _) _⟩
    · obtain ⟨j, hj⟩ : ∃ j : Nat, ra = lo + j := ⟨(ra - lo).toNat, by omega⟩
      have hjl : j < sl := by omega
      have c2' : decide ((sl : Int) ≤ ra - lo) = false := by simp; omega
      have ej : (ra - lo).toNat = j := by omega
      have g0 : w.cell? ⟨C, at_ * 2 + (ra - lo).toNat * 2, none⟩ = some (.int .i64 (tab j).1) := by
        rw [ej, show at_ * 2 + j * 2 = 2 * at_ + 2 * j from by omega]; exact Hc0.out j hjl
      have g1 : w.cell? ⟨C, at_ * 2 + (ra - lo).toNat * 2 + 1, none⟩ = some (.int .i64 (tab j).2) := by
        rw [ej, show at_ * 2 + j * 2 + 1 = 2 * at_ + 2 * j + 1 from by omega]; exact Hc1.out j hjl
      have i1 : 0 ≤ ra - lo := by omega
      have i2 : ra - lo < sl := by omega
      have HJ := hide hj
      clear hj ej
      by_cases c3 : (tab j).1 = ra
      · have c3' : ((tab j).1 != ra) = false := by simp [c3]
        have H3 := hide c3
        clear c3
        go_enter Ybad.func9, Ybad.ntmps9
        go_wp2
        go_region
        all_goals go_wp2
        go_quiet (fail)
        go_wp2
        go_quiet (fail)
        go_wp2
        go_quiet (fail)
        go_wp2
        go_quiet (fail)
        go_wp2
        go_ret
        exact ⟨⟨_, rfl, Or.inr ⟨j, hjl, HJ.out, Or.inr ⟨H3.out, rfl⟩⟩⟩, below_drewN (below_drewN (below_drewN (below_drewN (by go_grown) _) _) _) _⟩
      · have c3' : ((tab j).1 != ra) = true := by simp [c3]
        go_enter Ybad.func9, Ybad.ntmps9
        go_wp2
        go_region
        all_goals go_wp2
        go_quiet (fail)
        go_wp2
        go_quiet (fail)
        go_wp2
        go_quiet (fail)
        go_wp2
        go_ret
        exact ⟨⟨_, rfl, Or.inr ⟨j, hjl, HJ.out, Or.inl ⟨c3, rfl⟩⟩⟩, below_drewN (below_drewN (below_drewN (by go_grown) _) _) _⟩
end Go.Proofs.YbulkbdjgDoor
