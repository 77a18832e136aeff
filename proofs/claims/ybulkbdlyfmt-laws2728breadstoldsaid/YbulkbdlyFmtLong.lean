/- LawS2728BReads where it reads. -/
import Derived.Test.YbulkbdlyFmtLaw
namespace Go.Proofs.YbulkbdlyFmt
open Go.RowKit Go.Extern.Stop Go.Stop Go.Extern

set_option maxRecDepth 100000 in
set_option maxHeartbeats 400000 in
theorem law_long (b off n c : Nat) (f : Nat → Int) (w : World) (hn : n ≤ 1024) (h8 : 8 ≤ n)
    (hc : ∀ j, j < n → w.cell? ⟨b, off + j, none⟩ = some (.int .u8 (f j))) (hr : ∀ j, j < n → 0 ≤ f j ∧ f j < 256) :
    Calls Ybaf.prog 3 #[.slice (some ⟨b, off, none⟩) n c, .bool false] w fun e w' => e = .returned (.bool true) ∧ Below w.heap.size w w' := by
  obtain ⟨m, rfl⟩ : ∃ m, n = m + 8 := ⟨n - 8, by omega⟩
  have hC := hide hc
  have hR := hide hr
  have ln : decide ((1024 : Int) < (m : Int) + 8) = false := by simp; omega
  have l8 : decide ((m : Int) + 8 < 8) = false := by simp; omega
  clear hc hr
  go_enter Ybaf.func3, Ybaf.ntmps3
  go_wp2_with (first
    | (go_at_call 5
       refine (copy_any (some ⟨b, off, none⟩) b off (m + 8) c f _ hn (fun h => by cases h) (fun _ => rfl) hC.out).mono ?_
       rintro e w1 ⟨a, g, rfl, h1⟩
       obtain rfl := h1.spot (by omega)
       replace h1 := hide h1)
    | (go_at_call 7
       refine (u64_long w1.heap.size g (m + 8) (m + 8) f _ h8 (Nat.le_refl _) (by omega) ⟨heap_alloc_new _ _⟩ (h1.out.lt (by omega)) (fun j hj => hR.out j (by omega)) (fun j hj => ?cc)).mono ?_
       case cc => rw [World.cell?_alloc_lt (h := h1.out.lt (by omega))]; exact h1.out.cells j (by omega)
       rintro e w3 ⟨rfl, ⟨o, ho, hd⟩, hb⟩
       simp only [Nat.add_sub_cancel] at hd
       have d0 := hd.buf
       have d1 := hd.err
       have dl := hd.lt
       have hC3 : Hid (∀ j, j < m + 8 → w3.cell? ⟨g, j, none⟩ = some (.int .u8 (f j))) := fun j hj => by
         rw [hb.cell (p := ⟨g, j, none⟩) (h1.out.lt (by omega)), World.cell?_alloc_lt (h := h1.out.lt (by omega))]; exact h1.out.cells j hj
       have hb' : Hid (Below w.heap.size w w3) := (h1.out.below.alloc (h1.out.below.size) _).trans (hb.mono h1.out.below.size)
       have hbe : be (f 0) (f 1) (f 2) (f 3) (f 4) (f 5) (f 6) (f 7) = val f 8 := be_val f (fun j hj => hR.out j (by omega))
       rw [hbe]
       generalize hV : val f 8 = V
       replace hV := hide hV
       replace ho := hide ho
       clear hd hb hbe))
  go_loopg [11, 12] 8 (fun k s11 s12 wr => ∃ j : Nat, j ≤ 8 ∧ 8 - j ≤ k ∧ s12 = .int .i64 j ∧ s11 = .int .u64 (val f j) ∧ wr = w3)
  case atStart => exact ⟨0, by omega, by omega, rfl, rfl, rfl⟩
  case round =>
    obtain ⟨j, hj, hg, rfl, rfl, rfl⟩ := hrel
    by_cases hlt : j < 8
    · have c0 := hC3.out j (by omega)
      have r0 := hR.out j (by omega)
      have v0 := val_lt f hlt (fun i hi => hR.out i (by omega))
      have hor := bits_lo (val f j) (f j) v0.1 v0.2 r0.1 r0.2
      have hs : Hid (val f (j + 1) = val f j * 256 + f j) := rfl
      generalize f j = x at *
      generalize val f j = A at *
      go_wp2
      go_roundg (8 - (j + 1))
      case measure => omega
      case rel => exact ⟨j + 1, by omega, by omega, by go_num, by rw [hs.out], rfl⟩
    · have : j = 8 := by omega
      subst this
      rw [hV.out]
      simp only [Int.cast_ofNat_Int]
      go_wp2
      clear hj hg hlt
      go_loopg [13] m (fun k s13 wq => ∃ i q : Nat, i ≤ m ∧ m - i ≤ k ∧ s13 = .int .i64 i ∧ wq = wr.drewN q)
      case atStart => exact ⟨0, 0, by omega, by omega, rfl, rfl⟩
      case round =>
        obtain ⟨i, q, hi, hg, rfl, rfl⟩ := hrel
        by_cases hlt : i < m
        · obtain rfl := ho.out (by omega)
          have c0 := hC3.out (8 + i) (by omega)
          generalize f (8 + i) = x at c0
          have li : decide ((i : Int) < (m : Int)) = true := by simp; omega
          go_wp2_with fail
          go_quiet (fail)
          go_wp2
          go_roundg (m - (i + 1))
          case measure => omega
          case rel => exact ⟨i + 1, _, by omega, by omega, by go_num, rfl⟩
        · have : i = m := by omega
          subst this
          go_wp2
          go_ret
          exact ⟨rfl, below_drewN hb'.out _⟩
end Go.Proofs.YbulkbdlyFmt
