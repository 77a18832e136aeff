import Derived.Test.YbulkbdjgDoorLawA
namespace Go.Proofs.YbulkbdjgDoor
open Go.RowKit

/-- Uvarint over the bytes from place p on, in whatever world holds them. -/
theorem uv_at {b off len cap p k : Nat} {z : Nat → Int} {w2 : World} (hlen : len ≤ 1024) (hcap : len ≤ cap) (hp : p ≤ len) (hc : ∀ j, j < len - p → w2.cell? ⟨b, off + p + j, none⟩ = some (.int .u8 (z j))) (hr : ∀ j, j < len - p → 0 ≤ z j ∧ z j < 256) (hS : Stops z (len - p) k) (q : Nat) :
    Calls Ybad.prog 15 #[.slice (if cap = p then some (⟨b, off, none⟩ : Addr) else some ⟨b, off + p, none⟩) (len - p) (cap - p)] (w2.drewN q) fun e w' => UvOut z (len - p) k e ∧ w' = w2.drewN q :=
  uv_any _ b (off + p) (len - p) (cap - p) k z (w2.drewN q) (fun h => by rw [if_neg (by omega)]) (by omega) (fun j hj => hc j hj) hr hS

set_option maxRecDepth 100000 in
set_option maxHeartbeats 2000000 in
theorem lawA_nend (b off len cap p n k : Nat) (z : Nat → Int) (a : Int) (w : World) (hlen : len ≤ 1024) (hp : p + 1 + n ≤ len) (hcap : len ≤ cap) (hb : b < w.heap.size) (hz : w.cell? ⟨b, off + p, none⟩ = some (.int .u8 n)) (hn : n < 256)
    (hcz : ∀ j, j < len - (p + 1 + n) → w.cell? ⟨b, off + (p + 1 + n) + j, none⟩ = some (.int .u8 (z j))) (hr : ∀ j, j < len - (p + 1 + n) → 0 ≤ z j ∧ z j < 256) (hS : Stops z (len - (p + 1 + n)) k) (hkd : kd z (len - (p + 1 + n)) k = 0)
    (hcl : ∀ w, Calls Ybad.prog 5 #[.int .i64 a, .int .i64 len] w fun e w' => e = .returned (.int .i64 (p : Int)) ∧ w' = w) (hg : w.cell? ⟨0, 0, none⟩ = some (.iface 122 (.agg #[.pointer (some ⟨3, 30, none⟩)]))) :
    Calls Ybad.prog 3 #[.slice (some ⟨b, off, none⟩) len cap, .int .i64 a] w fun e w' => e = .returned (.bool true) ∧ Below w.heap.size w w' := by
  have HCL := hide hcl
  have HG := hide hg
  have hlen' : decide ((1024 : Int) < len) = false := by simp; omega
  have e1 : ((p : Int) == len) = false := beq_eq_false_iff_ne.2 (by omega)
  have cz2 : ∀ w2 : World, Below w.heap.size (w.alloc (.cells #[.string ⟨#[102]⟩, .slice (some ⟨b, off, none⟩) len cap, .int .i64 (p : Int)] 25)) w2 → ∀ j, j < len - (p + 1 + n) → w2.cell? ⟨b, off + (p + 1 + n) + j, none⟩ = some (.int .u8 (z j)) := fun w2 hB j hj => (hB.cell (p := ⟨b, off + (p + 1 + n) + j, none⟩) hb).trans (((below_new _ _).cell (p := ⟨b, off + (p + 1 + n) + j, none⟩) hb).trans (hcz j hj))
  have hsite := site_ok w.heap.size b off len cap p n ((w.alloc (.cells #[.string ⟨#[102]⟩, .slice (some ⟨b, off, none⟩) len cap, .int .i64 (p : Int)] 25)).alloc (.cells #[.slice none 0 0, .int .u64 0] 28)) ((dec_new _ _ _ _ _).below (below_new _ _) (by simp)) hlen (by omega) hcap (((below_new _ _).cell (p := ⟨b, off + p, none⟩) (by simp; omega)).trans (((below_new _ _).cell (p := ⟨b, off + p, none⟩) hb).trans hz)) hn hp
  have HOP := hide (op_bad2 w.heap.size b off len cap p n ((len : Int) + 1) ⟨#[99, 117, 116, 32, 115, 104, 111, 114, 116]⟩ (w.alloc (.cells #[.string ⟨#[102]⟩, .slice (some ⟨b, off, none⟩) len cap, .int .i64 (p : Int)] 25)) (dec_new _ _ _ _ _) hsite (fun w2 hD2 hB2 => num_end w.heap.size b off len cap (p + 1 + n) _ w2 hD2 hlen hp hcap rfl (fun q => (uv_is (uv_at hlen hcap hp (cz2 w2 hB2) hr hS q)).1 hkd)))
  obtain ⟨so, hso⟩ : ∃ so, (if cap = p + 1 then some (⟨b, off, none⟩ : Addr) else some ⟨b, off + (p + 1), none⟩) = so := ⟨_, rfl⟩
  clear hcl hg hsite
  go_enter Ybad.func3, Ybad.ntmps3
  go_wp2_with fail
  refine (HCL.out _).mono ?_
  rintro e w' ⟨rfl, hw'⟩
  subst hw'
  go_wp2_with fail
  refine HOP.out.mono ?_
  rintro e w2 ⟨E, rfl, hE, hDE, hEl, hD2, hB2⟩
  have HF := fun o => hide (failed_after (below_new _ _) hE hD2 hB2 HG.out o)
  have gz : w2.cell? ⟨b, off + p, none⟩ = some (.int .u8 n) := (hB2.cell (p := ⟨b, off + p, none⟩) (by exact hb)).trans (((below_new _ _).cell (p := ⟨b, off + p, none⟩) hb).trans hz)
  have gcz := hide (cz2 w2 hB2)
  have hb2 : b < w2.heap.size := by have := hD2.lt; omega
  have HR := hide hr
  obtain ⟨hSle, hS10, hSb, hSs⟩ := hS
  have HSB := hide hSb
  have HSS := hide hSs
  clear hE hDE hEl hD2 hB2 cz2 hcz hr hSb hSs
  go_upto_block 0 with fail
  rw [show p + 1 + n - (p + 1) = n from by omega]
  go_cut [12, 14, 15] from 75 (fun s12 s14 s15 wd => wd = w2.alloc (.cells #[.slice none 0 0, .int .u64 0] 28) ∧ s14 = .int .i64 0)
  case first =>
    go_wp2_with fail
    go_loop [12, 13, 14, 15, 16] (fun s12 s13 s14 s15 s16 => ∃ j : Nat, j ≤ k ∧ s16 = .int .i64 j ∧ s13 = .int .u64 (7 * j) ∧ s12 = .int .u64 (accX z j) ∧ s14 = .int .i64 0 ∧ s15 = .int .i64 0) (fun _ _ _ _ s16 => k - (intOf s16).toNat)
    case atStart => exact ⟨0, Nat.zero_le _, rfl, rfl, rfl, rfl, rfl⟩
    case round =>
      obtain ⟨j, hj, rfl, rfl, rfl, rfl, rfl⟩ := hrel
      by_cases hjk : j < k
      · have g0 := gcz.out j (by omega)
        have r0 := HR.out j (by omega)
        have b0 := HSB.out j hjk
        have hx : accX z (j + 1) = bits BinOp.or IntKind.u64 (accX z j) (IntKind.u64.wrap (IntKind.u64.wrap (bits BinOp.and IntKind.u8 (z j) 127) * 2 ^ (7 * j))) := rfl
        generalize z j = y at *
        have HX := hide hx
        clear hx
        generalize accX z j = A at *
        have g0' : w2.cell? ⟨b, off + (p + 1 + n + j), none⟩ = some (.int .u8 y) := by rw [← g0, Nat.add_assoc off]
        clear g0
        go_wp2
        go_round
        case rel => exact ⟨j + 1, hjk, by go_num, by go_num, by rw [HX.out], rfl, rfl⟩
        case measure => simp [intOf]; omega
      · have hje : j = k := by omega
        subst hje
        have hkn : j = len - (p + 1 + n) := by
          unfold kd at hkd
          by_cases h : j = len - (p + 1 + n)
          · exact h
          · rw [if_neg h] at hkd; split at hkd
            · omega
            · split at hkd <;> omega
        have hge : len ≤ p + 1 + n + j := by omega
        clear hkn hkd
        generalize accX z j = A at *
        go_wp2
        go_meet
        case rel => exact ⟨rfl, rfl⟩
  case rest =>
    obtain ⟨rfl, rfl⟩ := hcut
    go_wp2_with (go_at_call 7; refine (HF _).out.mono ?_; rintro e w3 ⟨rfl, hb⟩)
    go_ret
    exact ⟨rfl, by assumption⟩

set_option maxRecDepth 100000 in
set_option maxHeartbeats 2000000 in
theorem lawA_nover (b off len cap p n k : Nat) (z : Nat → Int) (a : Int) (w : World) (hlen : len ≤ 1024) (hp : p + 1 + n ≤ len) (hcap : len ≤ cap) (hb : b < w.heap.size) (hz : w.cell? ⟨b, off + p, none⟩ = some (.int .u8 n)) (hn : n < 256)
    (hcz : ∀ j, j < len - (p + 1 + n) → w.cell? ⟨b, off + (p + 1 + n) + j, none⟩ = some (.int .u8 (z j))) (hr : ∀ j, j < len - (p + 1 + n) → 0 ≤ z j ∧ z j < 256) (hS : Stops z (len - (p + 1 + n)) k) (hkd : kd z (len - (p + 1 + n)) k = 2)
    (hcl : ∀ w, Calls Ybad.prog 5 #[.int .i64 a, .int .i64 len] w fun e w' => e = .returned (.int .i64 (p : Int)) ∧ w' = w) (hg : w.cell? ⟨0, 0, none⟩ = some (.iface 122 (.agg #[.pointer (some ⟨3, 30, none⟩)]))) :
    Calls Ybad.prog 3 #[.slice (some ⟨b, off, none⟩) len cap, .int .i64 a] w fun e w' => e = .returned (.bool true) ∧ Below w.heap.size w w' := by
  have HCL := hide hcl
  have HG := hide hg
  have hlen' : decide ((1024 : Int) < len) = false := by simp; omega
  have e1 : ((p : Int) == len) = false := beq_eq_false_iff_ne.2 (by omega)
  have cz2 : ∀ w2 : World, Below w.heap.size (w.alloc (.cells #[.string ⟨#[102]⟩, .slice (some ⟨b, off, none⟩) len cap, .int .i64 (p : Int)] 25)) w2 → ∀ j, j < len - (p + 1 + n) → w2.cell? ⟨b, off + (p + 1 + n) + j, none⟩ = some (.int .u8 (z j)) := fun w2 hB j hj => (hB.cell (p := ⟨b, off + (p + 1 + n) + j, none⟩) hb).trans (((below_new _ _).cell (p := ⟨b, off + (p + 1 + n) + j, none⟩) hb).trans (hcz j hj))
  have hsite := site_ok w.heap.size b off len cap p n ((w.alloc (.cells #[.string ⟨#[102]⟩, .slice (some ⟨b, off, none⟩) len cap, .int .i64 (p : Int)] 25)).alloc (.cells #[.slice none 0 0, .int .u64 0] 28)) ((dec_new _ _ _ _ _).below (below_new _ _) (by simp)) hlen (by omega) hcap (((below_new _ _).cell (p := ⟨b, off + p, none⟩) (by simp; omega)).trans (((below_new _ _).cell (p := ⟨b, off + p, none⟩) hb).trans hz)) hn hp
  have HOP := hide (op_bad2 w.heap.size b off len cap p n (((p + 1 + n : Nat) : Int) + 1) ⟨#[97, 32, 110, 117, 109, 98, 101, 114, 32, 98, 101, 121, 111, 110, 100, 32, 54, 52, 32, 98, 105, 116, 115]⟩ (w.alloc (.cells #[.string ⟨#[102]⟩, .slice (some ⟨b, off, none⟩) len cap, .int .i64 (p : Int)] 25)) (dec_new _ _ _ _ _) hsite (fun w2 hD2 hB2 => num_over w.heap.size b off len cap (p + 1 + n) k _ w2 hD2 hlen hp hcap hS.ten rfl (fun q => (uv_is (uv_at hlen hcap hp (cz2 w2 hB2) hr hS q)).2.1 hkd)))
  obtain ⟨so, hso⟩ : ∃ so, (if cap = p + 1 then some (⟨b, off, none⟩ : Addr) else some ⟨b, off + (p + 1), none⟩) = so := ⟨_, rfl⟩
  clear hcl hg hsite
  go_enter Ybad.func3, Ybad.ntmps3
  go_wp2_with fail
  refine (HCL.out _).mono ?_
  rintro e w' ⟨rfl, hw'⟩
  subst hw'
  go_wp2_with fail
  refine HOP.out.mono ?_
  rintro e w2 ⟨E, rfl, hE, hDE, hEl, hD2, hB2⟩
  have HF := fun o => hide (failed_after (below_new _ _) hE hD2 hB2 HG.out o)
  have gz : w2.cell? ⟨b, off + p, none⟩ = some (.int .u8 n) := (hB2.cell (p := ⟨b, off + p, none⟩) (by exact hb)).trans (((below_new _ _).cell (p := ⟨b, off + p, none⟩) hb).trans hz)
  have gcz := hide (cz2 w2 hB2)
  have hb2 : b < w2.heap.size := by have := hD2.lt; omega
  have HR := hide hr
  obtain ⟨hSle, hS10, hSb, hSs⟩ := hS
  have HSB := hide hSb
  have HSS := hide hSs
  clear hE hDE hEl hD2 hB2 cz2 hcz hr hSb hSs
  go_upto_block 0 with fail
  rw [show p + 1 + n - (p + 1) = n from by omega]
  go_cut [12, 14, 15] from 75 (fun s12 s14 s15 wd => wd = w2.alloc (.cells #[.slice none 0 0, .int .u64 0] 28) ∧ s14 = .int .i64 2)
  case first =>
    go_wp2_with fail
    go_loop [12, 13, 14, 15, 16] (fun s12 s13 s14 s15 s16 => ∃ j : Nat, j ≤ k ∧ s16 = .int .i64 j ∧ s13 = .int .u64 (7 * j) ∧ s12 = .int .u64 (accX z j) ∧ s14 = .int .i64 0 ∧ s15 = .int .i64 0) (fun _ _ _ _ s16 => k - (intOf s16).toNat)
    case atStart => exact ⟨0, Nat.zero_le _, rfl, rfl, rfl, rfl, rfl⟩
    case round =>
      obtain ⟨j, hj, rfl, rfl, rfl, rfl, rfl⟩ := hrel
      by_cases hjk : j < k
      · have g0 := gcz.out j (by omega)
        have r0 := HR.out j (by omega)
        have b0 := HSB.out j hjk
        have hx : accX z (j + 1) = bits BinOp.or IntKind.u64 (accX z j) (IntKind.u64.wrap (IntKind.u64.wrap (bits BinOp.and IntKind.u8 (z j) 127) * 2 ^ (7 * j))) := rfl
        generalize z j = y at *
        have HX := hide hx
        clear hx
        generalize accX z j = A at *
        have g0' : w2.cell? ⟨b, off + (p + 1 + n + j), none⟩ = some (.int .u8 y) := by rw [← g0, Nat.add_assoc off]
        clear g0
        go_wp2
        go_round
        case rel => exact ⟨j + 1, hjk, by go_num, by go_num, by rw [HX.out], rfl, rfl⟩
        case measure => simp [intOf]; omega
      · have hje : j = k := by omega
        subst hje
        have hov : j < len - (p + 1 + n) ∧ (j = 10 ∨ (j = 9 ∧ 1 < z 9)) := by
          unfold kd at hkd
          split at hkd
          · omega
          · split at hkd
            · exact ⟨by omega, Or.inl (by assumption)⟩
            · split at hkd
              · exact ⟨by omega, Or.inr (by assumption)⟩
              · omega
        obtain ⟨hlt, hov⟩ := hov
        have g0 := gcz.out j hlt
        have r0 := HR.out j hlt
        have hs9 := HSS.out
        have g0' : w2.cell? ⟨b, off + (p + 1 + n + j), none⟩ = some (.int .u8 (z j)) := by rw [← g0, Nat.add_assoc off]
        clear g0 hkd
        rcases hov with rfl | ⟨rfl, h9⟩
        · generalize z 10 = y at *
          generalize accX z 10 = A at *
          clear hs9
          go_wp2
          go_meet
          case rel => exact ⟨rfl, rfl⟩
        · have hz9 : z 9 < 128 := by
            rcases hs9 with h | h | h
            · omega
            · omega
            · exact h
          clear hs9
          generalize z 9 = y at *
          generalize accX z 9 = A at *
          go_wp2
          go_meet
          case rel => exact ⟨rfl, rfl⟩
  case rest =>
    obtain ⟨rfl, rfl⟩ := hcut
    go_wp2_with (go_at_call 7; refine (HF _).out.mono ?_; rintro e w3 ⟨rfl, hb⟩)
    go_ret
    exact ⟨rfl, by assumption⟩

set_option maxRecDepth 100000 in
set_option maxHeartbeats 2000000 in
theorem lawA_nlong (b off len cap p n k : Nat) (z : Nat → Int) (a : Int) (w : World) (hlen : len ≤ 1024) (hp : p + 1 + n ≤ len) (hcap : len ≤ cap) (hb : b < w.heap.size) (hz : w.cell? ⟨b, off + p, none⟩ = some (.int .u8 n)) (hn : n < 256)
    (hcz : ∀ j, j < len - (p + 1 + n) → w.cell? ⟨b, off + (p + 1 + n) + j, none⟩ = some (.int .u8 (z j))) (hr : ∀ j, j < len - (p + 1 + n) → 0 ≤ z j ∧ z j < 256) (hS : Stops z (len - (p + 1 + n)) k) (hkd : kd z (len - (p + 1 + n)) k = 1) (hk1 : 1 ≤ k) (hz0 : z k = 0) (hkl : k < len - (p + 1 + n))
    (hcl : ∀ w, Calls Ybad.prog 5 #[.int .i64 a, .int .i64 len] w fun e w' => e = .returned (.int .i64 (p : Int)) ∧ w' = w) (hg : w.cell? ⟨0, 0, none⟩ = some (.iface 122 (.agg #[.pointer (some ⟨3, 30, none⟩)]))) :
    Calls Ybad.prog 3 #[.slice (some ⟨b, off, none⟩) len cap, .int .i64 a] w fun e w' => e = .returned (.bool true) ∧ Below w.heap.size w w' := by
  have HCL := hide hcl
  have HG := hide hg
  have hlen' : decide ((1024 : Int) < len) = false := by simp; omega
  have e1 : ((p : Int) == len) = false := beq_eq_false_iff_ne.2 (by omega)
  have cz2 : ∀ w2 : World, Below w.heap.size (w.alloc (.cells #[.string ⟨#[102]⟩, .slice (some ⟨b, off, none⟩) len cap, .int .i64 (p : Int)] 25)) w2 → ∀ j, j < len - (p + 1 + n) → w2.cell? ⟨b, off + (p + 1 + n) + j, none⟩ = some (.int .u8 (z j)) := fun w2 hB j hj => (hB.cell (p := ⟨b, off + (p + 1 + n) + j, none⟩) hb).trans (((below_new _ _).cell (p := ⟨b, off + (p + 1 + n) + j, none⟩) hb).trans (hcz j hj))
  have hsite := site_ok w.heap.size b off len cap p n ((w.alloc (.cells #[.string ⟨#[102]⟩, .slice (some ⟨b, off, none⟩) len cap, .int .i64 (p : Int)] 25)).alloc (.cells #[.slice none 0 0, .int .u64 0] 28)) ((dec_new _ _ _ _ _).below (below_new _ _) (by simp)) hlen (by omega) hcap (((below_new _ _).cell (p := ⟨b, off + p, none⟩) (by simp; omega)).trans (((below_new _ _).cell (p := ⟨b, off + p, none⟩) hb).trans hz)) hn hp
  have HOP := hide (op_bad2 w.heap.size b off len cap p n (((p + 1 + n : Nat) : Int) + 1) ⟨#[97, 32, 110, 117, 109, 98, 101, 114, 32, 110, 111, 116, 32, 105, 110, 32, 105, 116, 115, 32, 115, 104, 111, 114, 116, 101, 115, 116, 32, 102, 111, 114, 109]⟩ (w.alloc (.cells #[.string ⟨#[102]⟩, .slice (some ⟨b, off, none⟩) len cap, .int .i64 (p : Int)] 25)) (dec_new _ _ _ _ _) hsite (fun w2 hD2 hB2 => num_long w.heap.size b off len cap (p + 1 + n) k (finX z k) _ w2 hD2 hlen (by have := hkl; omega) hcap hS.ten hk1 rfl (by have := cz2 w2 hB2 k hkl; rw [hz0, Nat.add_assoc off] at this; exact this) (fun q => (uv_is (uv_at hlen hcap hp (cz2 w2 hB2) hr hS q)).2.2 hkd)))
  obtain ⟨so, hso⟩ : ∃ so, (if cap = p + 1 then some (⟨b, off, none⟩ : Addr) else some ⟨b, off + (p + 1), none⟩) = so := ⟨_, rfl⟩
  clear hcl hg hsite
  go_enter Ybad.func3, Ybad.ntmps3
  go_wp2_with fail
  refine (HCL.out _).mono ?_
  rintro e w' ⟨rfl, hw'⟩
  subst hw'
  go_wp2_with fail
  refine HOP.out.mono ?_
  rintro e w2 ⟨E, rfl, hE, hDE, hEl, hD2, hB2⟩
  have HF := fun o => hide (failed_after (below_new _ _) hE hD2 hB2 HG.out o)
  have gz : w2.cell? ⟨b, off + p, none⟩ = some (.int .u8 n) := (hB2.cell (p := ⟨b, off + p, none⟩) (by exact hb)).trans (((below_new _ _).cell (p := ⟨b, off + p, none⟩) hb).trans hz)
  have gcz := hide (cz2 w2 hB2)
  have hb2 : b < w2.heap.size := by have := hD2.lt; omega
  have HR := hide hr
  obtain ⟨hSle, hS10, hSb, hSs⟩ := hS
  have HSB := hide hSb
  have HSS := hide hSs
  clear hE hDE hEl hD2 hB2 cz2 hcz hr hSb hSs
  have gk : w2.cell? ⟨b, off + (p + 1 + n + k), none⟩ = some (.int .u8 0) := by
    have := gcz.out k hkl
    rw [hz0, Nat.add_assoc off] at this; exact this
  have GK := hide gk
  clear hz0 gk
  go_upto_block 0 with fail
  rw [show p + 1 + n - (p + 1) = n from by omega]
  go_cut [12, 14, 15] from 75 (fun s12 s14 s15 wd => wd = w2.alloc (.cells #[.slice none 0 0, .int .u64 0] 28) ∧ s14 = .int .i64 1 ∧ s15 = .int .i64 ((k : Int) + 1) ∧ s12 = .int .u64 (finX z k))
  case first =>
    go_wp2_with fail
    go_loop [12, 13, 14, 15, 16] (fun s12 s13 s14 s15 s16 => ∃ j : Nat, j ≤ k ∧ s16 = .int .i64 j ∧ s13 = .int .u64 (7 * j) ∧ s12 = .int .u64 (accX z j) ∧ s14 = .int .i64 0 ∧ s15 = .int .i64 0) (fun _ _ _ _ s16 => k - (intOf s16).toNat)
    case atStart => exact ⟨0, Nat.zero_le _, rfl, rfl, rfl, rfl, rfl⟩
    case round =>
      obtain ⟨j, hj, rfl, rfl, rfl, rfl, rfl⟩ := hrel
      by_cases hjk : j < k
      · have g0 := gcz.out j (by omega)
        have r0 := HR.out j (by omega)
        have b0 := HSB.out j hjk
        have hx : accX z (j + 1) = bits BinOp.or IntKind.u64 (accX z j) (IntKind.u64.wrap (IntKind.u64.wrap (bits BinOp.and IntKind.u8 (z j) 127) * 2 ^ (7 * j))) := rfl
        generalize z j = y at *
        have HX := hide hx
        clear hx
        generalize accX z j = A at *
        have g0' : w2.cell? ⟨b, off + (p + 1 + n + j), none⟩ = some (.int .u8 y) := by rw [← g0, Nat.add_assoc off]
        clear g0
        go_wp2
        go_round
        case rel => exact ⟨j + 1, hjk, by go_num, by go_num, by rw [HX.out], rfl, rfl⟩
        case measure => simp [intOf]; omega
      · have hje : j = k := by omega
        subst hje
        have hov : j < len - (p + 1 + n) ∧ j ≠ 10 ∧ ¬ (j = 9 ∧ 1 < z 9) := by
          unfold kd at hkd
          split at hkd
          · omega
          · split at hkd
            · omega
            · split at hkd
              · omega
              · exact ⟨by omega, by assumption, by assumption⟩
        obtain ⟨hlt, h10, h9⟩ := hov
        have g0 := gcz.out j hlt
        have r0 := HR.out j hlt
        have hz1 : z j < 128 := by
          rcases HSS.out with h | h | h
          · omega
          · omega
          · exact h
        have g0' : w2.cell? ⟨b, off + (p + 1 + n + j), none⟩ = some (.int .u8 (z j)) := by rw [← g0, Nat.add_assoc off]
        have h99 : j = 9 → ¬ 1 < z j := fun e h => h9 ⟨e, by rw [← e]; exact h⟩
        have hfin : finX z j = bits BinOp.or IntKind.u64 (accX z j) (IntKind.u64.wrap (z j * 2 ^ (7 * j))) := rfl
        have HF' := hide hfin
        have e10 : ((j : Int) == 10) = false := beq_eq_false_iff_ne.2 (by omega)
        clear g0 hkd h9 hfin
        generalize z j = y at *
        generalize accX z j = A at *
        by_cases e9 : j = 9
        · have q9 := h99 e9
          have e9' : ((j : Int) == 9) = true := beq_iff_eq.2 (by omega)
          clear h99 e9 h10
          go_wp2
          go_meet
          case rel => exact ⟨rfl, rfl, rfl, by rw [HF'.out]⟩
        · have e9' : ((j : Int) == 9) = false := beq_eq_false_iff_ne.2 (by omega)
          clear h99
          go_wp2
          go_meet
          case rel => exact ⟨rfl, rfl, rfl, by rw [HF'.out]⟩
  case rest =>
    obtain ⟨rfl, rfl, rfl, rfl⟩ := hcut
    have i0 : ((p : Int) + 1 + n + ((k : Int) + 1) - 1) = ((p + 1 + n + k : Nat) : Int) := by omega
    have gk := GK.out
    generalize finX z k = X at *
    go_wp2_with (go_at_call 7; refine (HF _).out.mono ?_; rintro e w3 ⟨rfl, hb⟩)
    go_ret
    exact ⟨rfl, by assumption⟩

end Go.Proofs.YbulkbdjgDoor
