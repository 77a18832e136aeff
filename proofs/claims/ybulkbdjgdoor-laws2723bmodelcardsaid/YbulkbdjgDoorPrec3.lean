import Derived.Test.YbulkbdjgDoorPrec
namespace Go.Proofs.YbulkbdjgDoor
open Go.RowKit

theorem and63 (m : Nat) (hm : m < 64) : bits BinOp.and IntKind.i64 ((m : Int) + 1) 63 = ((m + 1) % 64 : Nat) := by
  have H : ∀ m : Fin 64, bits BinOp.and IntKind.i64 ((m.1 : Int) + 1) 63 = ((m.1 + 1) % 64 : Nat) := by decide +kernel
  exact H ⟨m, hm⟩
def HashRes (tab : Nat → Int × Int) (j : Nat) (ra ln : Int) (b : Bool) : Prop := ((tab j).1 = ra ∧ b = decide (ln ≤ (tab j).2)) ∨ ((tab j).1 ≠ ra ∧ b = true)
theorem HashRes.hit {tab : Nat → Int × Int} {i j : Nat} {ra ln : Int} (e : i = j) (h : (tab j).1 = ra) : HashRes tab i ra ln (decide (ln ≤ (tab j).2)) := by
  subst e; exact Or.inl ⟨h, rfl⟩
theorem HashRes.miss {tab : Nat → Int × Int} {i j : Nat} {ra ln : Int} (e : i = j) (h : (tab j).1 ≠ ra) : HashRes tab i ra ln true := by
  subst e; exact Or.inr ⟨h, rfl⟩
theorem back64 (h k : Nat) (_hh : h < 64) (hk : k < 64) : ((((h + k) % 64 : Nat) : Int) - h) % 64 = k := by omega

set_option maxRecDepth 100000 in
set_option maxHeartbeats 400000 in
theorem prec_hash (S R C at_ n cap h dd : Nat) (ra ln : Int) (tab : Nat → Int × Int) (w : World) (hS : S < w.heap.size) (hR : R < w.heap.size) (hC : C < w.heap.size)
    (hn : at_ + 64 ≤ n) (hcap : n ≤ cap) (hat : at_ ≤ 2) (hra0 : 0 ≤ ra) (hra1 : ra < 80) (hh : hsh ra = h) (hdd : dd < 64)
    (hbefore : ∀ k, k < dd → (tab ((h + k) % 64)).1 ≠ ra ∧ (tab ((h + k) % 64)).1 ≠ -1) (hend : (tab ((h + dd) % 64)).1 = ra ∨ (tab ((h + dd) % 64)).1 = -1)
    (ht : w.cell? ⟨2, 63, none⟩ = some (.int .u8 6)) (h2 : 2 < w.heap.size)
    (hS1 : w.cell? ⟨S, 1, none⟩ = some (.slice (some ⟨R, 0, none⟩) 2 2)) (hS10 : w.cell? ⟨S, 10, none⟩ = some (.slice (some ⟨C, 0, none⟩) n cap))
    (hR2 : w.cell? ⟨R, 2, none⟩ = some (.int .i64 ra)) (hR3 : w.cell? ⟨R, 3, none⟩ = some (.int .i64 ln))
    (hT0 : w.cell? ⟨R, 26, none⟩ = some (.int .i64 at_)) (hT1 : w.cell? ⟨R, 27, none⟩ = some (.int .i64 64)) (hT2 : w.cell? ⟨R, 28, none⟩ = some (.bool false))
    (hc0 : ∀ j, j < 64 → w.cell? ⟨C, 2 * at_ + 2 * j, none⟩ = some (.int .i64 (tab j).1)) (hc1 : ∀ j, j < 64 → w.cell? ⟨C, 2 * at_ + 2 * j + 1, none⟩ = some (.int .i64 (tab j).2)) :
    Calls Ybad.prog 9 #[.pointer (some ⟨S, 0, none⟩), .int .i64 0, .int .i64 1] w fun e w' =>
      (∃ b, e = .returned (.bool b) ∧ HashRes tab ((h + dd) % 64) ra ln b) ∧ Below w.heap.size w w' := by
  have hh64 : h < 64 := by have := (hsh_bd ra).2; omega
  have Hc0 := hide hc0
  have Hc1 := hide hc1
  have Hbe := hide hbefore
  have Hen := hide hend
  clear hc0 hc1 hbefore hend
  go_enter Ybad.func9, Ybad.ntmps9
  go_wp2
  go_region
  all_goals go_wp2
  go_quiet (fail)
  go_wp2_with (go_at_call 8; refine (slot_any ra _ hra0 hra1 ?_).mono ?_; rotate_left; (rintro e w' ⟨rfl, rfl⟩))
  rotate_left
  · exact ((below_drewN ((Below.refl _ _).alloc (Nat.le_refl _) _) _).cell (p := ⟨2, 63, none⟩) h2).trans ht
  go_loop [13] (fun i => ∃ k : Nat, k ≤ dd ∧ i = .int .i64 (((h + k) % 64 : Nat) : Int)) (fun i => dd - ((intOf i - h) % 64).toNat)
  case atStart => exact ⟨0, Nat.zero_le _, by rw [Nat.add_zero, Nat.mod_eq_of_lt hh64]⟩
  case round =>
    obtain ⟨k, hk, rfl⟩ := hrel
    have hbk := back64 h k hh64 (by omega)
    have hstep : (h + (k + 1)) % 64 = ((h + k) % 64 + 1) % 64 := by omega
    have hm : (h + k) % 64 < 64 := Nat.mod_lt _ (by omega)
    by_cases hkd : k < dd
    · obtain ⟨n1, n2⟩ := Hbe.out k hkd
      have Hbk := hide hbk
      have Hst := hide hstep
      clear hbk hstep
      generalize hmm : (h + k) % 64 = m at *
      have Hmm := hide hmm
      clear hmm
      have a63 := and63 m hm
      have g0 : w.cell? ⟨C, at_ * 2 + m * 2, none⟩ = some (.int .i64 (tab m).1) := by
        rw [show at_ * 2 + m * 2 = 2 * at_ + 2 * m from by omega]; exact Hc0.out m hm
      have e1 : ((tab m).1 == ra) = false := by simp [n1]
      have e2 : ((tab m).1 == -1) = false := by simp [n2]
      clear n1 n2
      go_wp2
      go_round
      case rel => exact ⟨k + 1, hkd, by rw [Hst.out]; go_num⟩
      case measure => 
        have := Hmm.out
        simp [intOf]; omega
    · have hkk : k = dd := by omega
      subst hkk
      clear hbk hstep
      have Hen2 := Hen.out
      generalize hmm : (h + k) % 64 = m at *
      have Hmm := hide hmm
      clear hmm Hen Hbe
      have g0 : w.cell? ⟨C, at_ * 2 + m * 2, none⟩ = some (.int .i64 (tab m).1) := by
        rw [show at_ * 2 + m * 2 = 2 * at_ + 2 * m from by omega]; exact Hc0.out m hm
      have g1 : w.cell? ⟨C, at_ * 2 + m * 2 + 1, none⟩ = some (.int .i64 (tab m).2) := by
        rw [show at_ * 2 + m * 2 + 1 = 2 * at_ + 2 * m + 1 from by omega]; exact Hc1.out m hm
      by_cases c : (tab m).1 = ra
      · have e1 : ((tab m).1 == ra) = true := by simp [c]
        have Hcc := hide c
        clear c Hen2
        go_wp2
        go_quiet (fail)
        go_wp2
        go_ret
        exact ⟨⟨_, rfl, HashRes.hit Hmm.out Hcc.out⟩, below_drewN (below_drewN (by go_grown) _) _⟩
      · have e1 : ((tab m).1 == ra) = false := by simp [c]
        have c2 : (tab m).1 = -1 := by rcases Hen2 with h | h; exact absurd h c; exact h
        have e2 : ((tab m).1 == -1) = true := by simp [c2]
        have Hcc := hide c
        clear c c2 Hen2
        go_wp2
        go_ret
        exact ⟨Or.inr ⟨rfl, HashRes.miss Hmm.out Hcc.out⟩, below_drewN (by go_grown) _⟩
end Go.Proofs.YbulkbdjgDoor
