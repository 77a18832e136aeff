import Derived.Test.YbulkbdjgDoorSlot
namespace Go.Proofs.YbulkbdjgDoor
open Go.RowKit

/-- The number read so far: k bytes, each with its high bit. -/
def accX (z : Nat → Int) : Nat → Int
  | 0 => 0
  | k + 1 => bits BinOp.or IntKind.u64 (accX z k) (IntKind.u64.wrap (IntKind.u64.wrap (bits BinOp.and IntKind.u8 (z k) 127) * 2 ^ (7 * k)))
/-- .. and the last byte. -/
def finX (z : Nat → Int) (k : Nat) : Int := bits BinOp.or IntKind.u64 (accX z k) (IntKind.u64.wrap (z k * 2 ^ (7 * k)))
/-- Where the reading stops among n bytes. -/
structure Stops (z : Nat → Int) (n k : Nat) : Prop where
  le : k ≤ n
  ten : k ≤ 10
  big : ∀ j, j < k → 128 ≤ z j
  stop : k = n ∨ k = 10 ∨ z k < 128
/-- 0: the bytes end; 1: a number; 2: too great. -/
def kd (z : Nat → Int) (n k : Nat) : Nat := if k = n then 0 else if k = 10 then 2 else if k = 9 ∧ 1 < z 9 then 2 else 1

theorem stops_ex (z : Nat → Int) (n : Nat) : ∃ k, Stops z n k := by
  have H : ∀ d m, d + m = min n 10 → (∀ j, j < m → 128 ≤ z j) → ∃ k, Stops z n k := by
    intro d
    induction d with
    | zero => intro m hm hb; exact ⟨m, by omega, by omega, hb, by omega⟩
    | succ d ih =>
      intro m hm hb
      by_cases h : z m < 128
      · exact ⟨m, by omega, by omega, hb, Or.inr (Or.inr h)⟩
      · exact ih (m + 1) (by omega) (lt_succ_all hb (by omega))
  exact H (min n 10) 0 (by omega) (fun j hj => absurd hj (Nat.not_lt_zero j))

/-- What Uvarint answers. -/
def UvOut (z : Nat → Int) (n k : Nat) (e : Ending) : Prop :=
  (kd z n k = 0 ∧ e = .returned (.tuple #[.int .u64 0, .int .i64 0])) ∨
  (kd z n k = 2 ∧ e = .returned (.tuple #[.int .u64 0, .int .i64 (-((k : Int) + 1))])) ∨
  (kd z n k = 1 ∧ e = .returned (.tuple #[.int .u64 (finX z k), .int .i64 ((k : Int) + 1)]))

set_option maxRecDepth 100000 in
set_option maxHeartbeats 400000 in
theorem uv_any (ao : Option Addr) (b off n c k : Nat) (z : Nat → Int) (w : World) (hao : 0 < n → ao = some ⟨b, off, none⟩) (hn : n ≤ 1024)
    (hc : ∀ j, j < n → w.cell? ⟨b, off + j, none⟩ = some (.int .u8 (z j))) (hr : ∀ j, j < n → 0 ≤ z j ∧ z j < 256) (hS : Stops z n k) :
    Calls Ybad.prog 15 #[.slice ao n c] w fun e w' => UvOut z n k e ∧ w' = w := by
  obtain ⟨hk, hk10, hbig, hstop⟩ := hS
  have Hc := hide hc
  have Hr := hide hr
  have Hb := hide hbig
  have Hs := hide hstop
  clear hc hr hbig hstop
  go_enter Ybad.func15, Ybad.ntmps15
  go_wp2
  go_loop [4, 5, 10] (fun s4 s5 s10 => ∃ j : Nat, j ≤ k ∧ s10 = .int .i64 j ∧ s5 = .int .u64 (7 * j) ∧ s4 = .int .u64 (accX z j)) (fun _ _ s10 => k - (intOf s10).toNat)
  case atStart => exact ⟨0, Nat.zero_le _, rfl, rfl, rfl⟩
  case round =>
    obtain ⟨j, hj, rfl, rfl, rfl⟩ := hrel
    by_cases hjk : j < k
    · obtain rfl := hao (by omega)
      have g0 := Hc.out j (by omega)
      have r0 := Hr.out j (by omega)
      have b0 := Hb.out j hjk
      have hx : accX z (j + 1) = bits BinOp.or IntKind.u64 (accX z j) (IntKind.u64.wrap (IntKind.u64.wrap (bits BinOp.and IntKind.u8 (z j) 127) * 2 ^ (7 * j))) := rfl
      generalize z j = y at *
      have HX := hide hx
      clear hx
      generalize accX z j = A at *
      go_wp2
      go_round
      case rel => exact ⟨j + 1, hjk, by go_num, by go_num, by rw [HX.out]⟩
      case measure => simp [intOf]; omega
    · have hje : j = k := by omega
      subst hje
      by_cases hkn : j = n
      · subst hkn
        go_wp2
        go_ret2
        exact ⟨Or.inl ⟨by simp [kd], rfl⟩, rfl⟩
      · have hlt : j < n := by omega
        obtain rfl := hao (by omega)
        have g0 := Hc.out j hlt
        have r0 := Hr.out j hlt
        by_cases h10 : j = 10
        · subst h10
          go_wp2
          go_ret2
          exact ⟨Or.inr (Or.inl ⟨by simp [kd, hkn], rfl⟩), rfl⟩
        · have hz : z j < 128 := by rcases Hs.out with h | h | h; exact absurd h hkn; exact absurd h h10; exact h
          have e10 : ((j : Int) == 10) = false := beq_eq_false_iff_ne.2 (by omega)
          by_cases h9 : j = 9 ∧ 1 < z 9
          · obtain ⟨rfl, h9⟩ := h9
            generalize hzz : z 9 = y at *
            have HZ := hide hzz
            clear hzz
            generalize accX z 9 = A at *
            go_wp2
            go_ret2
            exact ⟨Or.inr (Or.inl ⟨by simp [kd, hkn, HZ.out, h9], rfl⟩), rfl⟩
          · have hfin : finX z j = bits BinOp.or IntKind.u64 (accX z j) (IntKind.u64.wrap (z j * 2 ^ (7 * j))) := rfl
            have HF := hide hfin
            have HK := hide (show kd z n j = 1 by unfold kd; rw [if_neg hkn, if_neg h10, if_neg h9])
            have h99 : j = 9 → ¬ 1 < z j := fun e h => h9 ⟨e, by rw [← e]; exact h⟩
            clear hfin h9
            generalize z j = y at *
            generalize accX z j = A at *
            by_cases e9 : j = 9
            · have q := h99 e9
              have e9' : ((j : Int) == 9) = true := beq_iff_eq.2 (by omega)
              clear h99 e9
              go_wp2
              go_ret2
              exact ⟨Or.inr (Or.inr ⟨HK.out, by rw [HF.out]; rfl⟩), rfl⟩
            · have e9' : ((j : Int) == 9) = false := beq_eq_false_iff_ne.2 (by omega)
              clear h99
              go_wp2
              go_ret2
              exact ⟨Or.inr (Or.inr ⟨HK.out, by rw [HF.out]; rfl⟩), rfl⟩

theorem uv_is {ao : Option Addr} {n c : Nat} {w : World} {z : Nat → Int} {k : Nat} (h : Calls Ybad.prog 15 #[.slice ao n c] w fun e w' => UvOut z n k e ∧ w' = w) :
    (kd z n k = 0 → Calls Ybad.prog 15 #[.slice ao n c] w fun e w' => e = .returned (.tuple #[.int .u64 0, .int .i64 0]) ∧ w' = w) ∧
    (kd z n k = 2 → Calls Ybad.prog 15 #[.slice ao n c] w fun e w' => e = .returned (.tuple #[.int .u64 0, .int .i64 (-((k : Int) + 1))]) ∧ w' = w) ∧
    (kd z n k = 1 → Calls Ybad.prog 15 #[.slice ao n c] w fun e w' => e = .returned (.tuple #[.int .u64 (finX z k), .int .i64 ((k : Int) + 1)]) ∧ w' = w) := by
  refine ⟨fun hk => h.mono ?_, fun hk => h.mono ?_, fun hk => h.mono ?_⟩
  · rintro e w' ⟨hu, rfl⟩
    rcases hu with ⟨_, h⟩ | ⟨h2, _⟩ | ⟨h1, _⟩
    · exact ⟨h, rfl⟩
    · omega
    · omega
  · rintro e w' ⟨hu, rfl⟩
    rcases hu with ⟨h0, _⟩ | ⟨_, h⟩ | ⟨h1, _⟩
    · omega
    · exact ⟨h, rfl⟩
    · omega
  · rintro e w' ⟨hu, rfl⟩
    rcases hu with ⟨h0, _⟩ | ⟨h2, _⟩ | ⟨_, h⟩
    · omega
    · omega
    · exact ⟨h, rfl⟩
end Go.Proofs.YbulkbdjgDoor
