import Derived.Test.YbulkbdjgDoorLawA2
namespace Go.Proofs.YbulkbdjgDoor
open Go.RowKit

set_option maxRecDepth 100000 in
set_option maxHeartbeats 2000000 in
theorem lawA_none (b off len cap p n k : Nat) (z : Nat → Int) (a : Int) (w : World) (hlen : len ≤ 1024) (hp : p + 1 + n ≤ len) (hcap : len ≤ cap) (hb : b < w.heap.size) (hz : w.cell? ⟨b, off + p, none⟩ = some (.int .u8 n)) (hn : n < 256)
    (hcz : ∀ j, j < len - (p + 1 + n) → w.cell? ⟨b, off + (p + 1 + n) + j, none⟩ = some (.int .u8 (z j))) (hr : ∀ j, j < len - (p + 1 + n) → 0 ≤ z j ∧ z j < 256) (hS : Stops z (len - (p + 1 + n)) k) (s : Nat → Int) (hcs : ∀ i, i < n → w.cell? ⟨b, off + (p + 1) + i, none⟩ = some (.int .u8 (s i))) (hkd : kd z (len - (p + 1 + n)) k = 1) (hk0 : k = 0) (hkl : k < len - (p + 1 + n))
    (hcl : ∀ w, Calls Ybad.prog 5 #[.int .i64 a, .int .i64 len] w fun e w' => e = .returned (.int .i64 (p : Int)) ∧ w' = w) (hg : w.cell? ⟨0, 0, none⟩ = some (.iface 122 (.agg #[.pointer (some ⟨3, 30, none⟩)]))) :
    Calls Ybad.prog 3 #[.slice (some ⟨b, off, none⟩) len cap, .int .i64 a] w fun e w' => e = .returned (.bool true) ∧ Below w.heap.size w w' := by
  have HCL := hide hcl
  have HG := hide hg
  have hlen' : decide ((1024 : Int) < len) = false := by simp; omega
  have e1 : ((p : Int) == len) = false := beq_eq_false_iff_ne.2 (by omega)
  have cz2 : ∀ w2 : World, Below w.heap.size (w.alloc (.cells #[.string ⟨#[102]⟩, .slice (some ⟨b, off, none⟩) len cap, .int .i64 (p : Int)] 25)) w2 → ∀ j, j < len - (p + 1 + n) → w2.cell? ⟨b, off + (p + 1 + n) + j, none⟩ = some (.int .u8 (z j)) := fun w2 hB j hj => (hB.cell (p := ⟨b, off + (p + 1 + n) + j, none⟩) hb).trans (((below_new _ _).cell (p := ⟨b, off + (p + 1 + n) + j, none⟩) hb).trans (hcz j hj))
  have hsite := site_ok w.heap.size b off len cap p n ((w.alloc (.cells #[.string ⟨#[102]⟩, .slice (some ⟨b, off, none⟩) len cap, .int .i64 (p : Int)] 25)).alloc (.cells #[.slice none 0 0, .int .u64 0] 28)) ((dec_new _ _ _ _ _).below (below_new _ _) (by simp)) hlen (by omega) hcap (((below_new _ _).cell (p := ⟨b, off + p, none⟩) (by simp; omega)).trans (((below_new _ _).cell (p := ⟨b, off + p, none⟩) hb).trans hz)) hn hp
  have HOP := hide (op_good w.heap.size b off len cap p n k (finX z k) (w.alloc (.cells #[.string ⟨#[102]⟩, .slice (some ⟨b, off, none⟩) len cap, .int .i64 (p : Int)] 25)) (dec_new _ _ _ _ _) hsite (fun w2 hD2 hB2 => (by subst hk0; exact num_one w.heap.size b off len cap (p + 1 + n) (finX z 0) _ w2 hD2 hlen (by omega) hcap rfl (fun q => by have := (uv_is (uv_at hlen hcap hp (cz2 w2 hB2) hr hS q)).2.2 hkd; exact this))))
  obtain ⟨so, hso⟩ : ∃ so, (if cap = p + 1 then some (⟨b, off, none⟩ : Addr) else some ⟨b, off + (p + 1), none⟩) = so := ⟨_, rfl⟩
  have hsoN : 0 < n → so = some ⟨b, off + (p + 1), none⟩ := fun h => by rw [← hso, if_neg (by omega)]
  have HSO := hide hsoN
  clear hcl hg hsite hsoN
  go_enter Ybad.func3, Ybad.ntmps3
  go_wp2_with fail
  refine (HCL.out _).mono ?_
  rintro e w' ⟨rfl, hw'⟩
  subst hw'
  go_wp2_with fail
  refine HOP.out.mono ?_
  rintro e w2 ⟨⟨so2, c2, rfl, hso2⟩, hD2, hB2⟩
  have HSO2 := hide hso2
  have gz : w2.cell? ⟨b, off + p, none⟩ = some (.int .u8 n) := (hB2.cell (p := ⟨b, off + p, none⟩) (by exact hb)).trans (((below_new _ _).cell (p := ⟨b, off + p, none⟩) hb).trans hz)
  have gcz := hide (cz2 w2 hB2)
  have gs : Hid (∀ i, i < n → w2.cell? ⟨b, off + (p + 1) + i, none⟩ = some (.int .u8 (s i))) := fun i hi => (hB2.cell (p := ⟨b, off + (p + 1) + i, none⟩) (by exact hb)).trans (((below_new _ _).cell (p := ⟨b, off + (p + 1) + i, none⟩) hb).trans (hcs i hi))
  have hb2 : b < w2.heap.size := by have := hD2.lt; omega
  have hw2 := hD2.lt
  have d0 := hD2.c0
  have d2 := hD2.c2
  have BB : Hid (∀ o q, Below w'.heap.size w' ((w2.alloc o).drewN q)) := fun o q => below_drewN (((below_new _ _).trans hB2).alloc (by have := hD2.lt; omega) o) q
  have HR := hide hr
  obtain ⟨hSle, hS10, hSb, hSs⟩ := hS
  have HSB := hide hSb
  have HSS := hide hSs
  clear hD2 hB2 cz2 hcz hr hSb hSs hso2 hcs
  have k1 : decide ((1 : Int) < (k : Int) + 1) = false := by subst hk0; rfl
  clear hk0
  go_upto_block 0 with fail
  rw [show p + 1 + n - (p + 1) = n from by omega]
  go_cut [12, 14, 15] from 75 (fun s12 s14 s15 wd => wd = w2.alloc (.cells #[.slice so2 n c2, .int .u64 (finX z k)] 28) ∧ s14 = .int .i64 1 ∧ s15 = .int .i64 ((k : Int) + 1) ∧ s12 = .int .u64 (finX z k))
  case first =>
    go_wp2_with fail
    go_loop [12, 13, 14, 15, 16] (fun s12 s13 s14 s15 s16 => ∃ j : Nat, j ≤ k ∧ s16 = .int .i64 j ∧ s13 = .int .u64 (7 * j) ∧ s12 = .int .u64 (accX z j) ∧ s14 = .int .i64 0 ∧ s15 = .int .i64 0) (fun _ _ _ _ s16 => k - (intOf s16).toNat)
    case atStart => exact ⟨0, Nat.zero_le _, rfl, rfl, rfl, rfl, rfl⟩
    case round =>
      obtain ⟨j, hj, rfl, rfl, rfl, rfl, rfl⟩ := hrel
      by_cases hjk : j < k
      · have g0 := gcz.out j (by omega)
        have r0 := HR.out j (by omega)
        have b0 := HSB.out j hjk
        have hx : accX z (j + 1) = bits BinOp.or IntKind.u64 (accX z j) (IntKind.u64.wrap (IntKind.u64.wrap (bits BinOp.and IntKind.u8 (z j) 127) * 2 ^ (7 * j))) := rfl
        generalize z j = y at *
        have HX := hide hx
        clear hx
        generalize accX z j = A at *
        have g0' : w2.cell? ⟨b, off + (p + 1 + n + j), none⟩ = some (.int .u8 y) := by rw [← g0, Nat.add_assoc off]
        clear g0
        go_wp2
        go_round
        case rel => exact ⟨j + 1, hjk, by go_num, by go_num, by rw [HX.out], rfl, rfl⟩
        case measure => simp [intOf]; omega
      · have hje : j = k := by omega
        subst hje
        have hov : j < len - (p + 1 + n) ∧ j ≠ 10 ∧ ¬ (j = 9 ∧ 1 < z 9) := by
          unfold kd at hkd
          split at hkd
          · omega
          · split at hkd
            · omega
            · split at hkd
              · omega
              · exact ⟨by omega, by assumption, by assumption⟩
        obtain ⟨hlt, h10, h9⟩ := hov
        have g0 := gcz.out j hlt
        have r0 := HR.out j hlt
        have hz1 : z j < 128 := by
          rcases HSS.out with h | h | h
          · omega
          · omega
          · exact h
        have g0' : w2.cell? ⟨b, off + (p + 1 + n + j), none⟩ = some (.int .u8 (z j)) := by rw [← g0, Nat.add_assoc off]
        have h99 : j = 9 → ¬ 1 < z j := fun e h => h9 ⟨e, by rw [← e]; exact h⟩
        have hfin : finX z j = bits BinOp.or IntKind.u64 (accX z j) (IntKind.u64.wrap (z j * 2 ^ (7 * j))) := rfl
        have HFF := hide hfin
        have e10 : ((j : Int) == 10) = false := beq_eq_false_iff_ne.2 (by omega)
        clear g0 hkd h9 hfin
        generalize z j = y at *
        generalize accX z j = A at *
        by_cases e9 : j = 9
        · have q9 := h99 e9
          have e9' : ((j : Int) == 9) = true := beq_iff_eq.2 (by omega)
          clear h99 e9 h10
          go_wp2
          go_meet
          case rel => exact ⟨rfl, rfl, rfl, by rw [HFF.out]⟩
        · have e9' : ((j : Int) == 9) = false := beq_eq_false_iff_ne.2 (by omega)
          clear h99
          go_wp2
          go_meet
          case rel => exact ⟨rfl, rfl, rfl, by rw [HFF.out]⟩
  case rest =>
    obtain ⟨rfl, rfl, rfl, rfl⟩ := hcut
    generalize finX z k = X at *
    go_wp2
    go_loopw [18] (fun s18 wx => ∃ i q : Nat, i ≤ n ∧ s18 = .int .i64 i ∧ wx = (w2.alloc (.cells #[.slice so2 n c2, .int .u64 X] 28)).drewN q) (fun s18 _ => n - (intOf s18).toNat)
    case atStart => exact ⟨0, 0, Nat.zero_le _, rfl, rfl⟩
    case round =>
      obtain ⟨i, q, hi, rfl, rfl⟩ := hrel
      by_cases hin : i < n
      · obtain rfl := HSO.out (by omega)
        obtain rfl := HSO2.out (by omega)
        have gi := gs.out i hin
        have ne : (s i != s i) = false := by simp
        generalize s i = y at *
        clear hso
        go_wp2
        go_quiet (fail)
        go_wp2
        go_roundw
        case rel => exact ⟨i + 1, _, hin, by go_num, rfl⟩
        case measure => simp [intOf]; omega
      · go_wp2
        go_ret
        exact ⟨rfl, BB.out _ _⟩

set_option maxRecDepth 100000 in
set_option maxHeartbeats 2000000 in
theorem lawA_nok (b off len cap p n k : Nat) (z : Nat → Int) (a : Int) (w : World) (hlen : len ≤ 1024) (hp : p + 1 + n ≤ len) (hcap : len ≤ cap) (hb : b < w.heap.size) (hz : w.cell? ⟨b, off + p, none⟩ = some (.int .u8 n)) (hn : n < 256)
    (hcz : ∀ j, j < len - (p + 1 + n) → w.cell? ⟨b, off + (p + 1 + n) + j, none⟩ = some (.int .u8 (z j))) (hr : ∀ j, j < len - (p + 1 + n) → 0 ≤ z j ∧ z j < 256) (hS : Stops z (len - (p + 1 + n)) k) (s : Nat → Int) (hcs : ∀ i, i < n → w.cell? ⟨b, off + (p + 1) + i, none⟩ = some (.int .u8 (s i))) (hkd : kd z (len - (p + 1 + n)) k = 1) (hk1 : 1 ≤ k) (hz0 : z k ≠ 0) (hkl : k < len - (p + 1 + n))
    (hcl : ∀ w, Calls Ybad.prog 5 #[.int .i64 a, .int .i64 len] w fun e w' => e = .returned (.int .i64 (p : Int)) ∧ w' = w) (hg : w.cell? ⟨0, 0, none⟩ = some (.iface 122 (.agg #[.pointer (some ⟨3, 30, none⟩)]))) :
    Calls Ybad.prog 3 #[.slice (some ⟨b, off, none⟩) len cap, .int .i64 a] w fun e w' => e = .returned (.bool true) ∧ Below w.heap.size w w' := by
  have HCL := hide hcl
  have HG := hide hg
  have hlen' : decide ((1024 : Int) < len) = false := by simp; omega
  have e1 : ((p : Int) == len) = false := beq_eq_false_iff_ne.2 (by omega)
  have cz2 : ∀ w2 : World, Below w.heap.size (w.alloc (.cells #[.string ⟨#[102]⟩, .slice (some ⟨b, off, none⟩) len cap, .int .i64 (p : Int)] 25)) w2 → ∀ j, j < len - (p + 1 + n) → w2.cell? ⟨b, off + (p + 1 + n) + j, none⟩ = some (.int .u8 (z j)) := fun w2 hB j hj => (hB.cell (p := ⟨b, off + (p + 1 + n) + j, none⟩) hb).trans (((below_new _ _).cell (p := ⟨b, off + (p + 1 + n) + j, none⟩) hb).trans (hcz j hj))
  have hsite := site_ok w.heap.size b off len cap p n ((w.alloc (.cells #[.string ⟨#[102]⟩, .slice (some ⟨b, off, none⟩) len cap, .int .i64 (p : Int)] 25)).alloc (.cells #[.slice none 0 0, .int .u64 0] 28)) ((dec_new _ _ _ _ _).below (below_new _ _) (by simp)) hlen (by omega) hcap (((below_new _ _).cell (p := ⟨b, off + p, none⟩) (by simp; omega)).trans (((below_new _ _).cell (p := ⟨b, off + p, none⟩) hb).trans hz)) hn hp
  have HOP := hide (op_good w.heap.size b off len cap p n k (finX z k) (w.alloc (.cells #[.string ⟨#[102]⟩, .slice (some ⟨b, off, none⟩) len cap, .int .i64 (p : Int)] 25)) (dec_new _ _ _ _ _) hsite (fun w2 hD2 hB2 => num_ok w.heap.size b off len cap (p + 1 + n) k (finX z k) (z k) _ w2 hD2 hlen (by have := hkl; omega) hcap hS.ten hk1 rfl (by have := cz2 w2 hB2 k hkl; rw [Nat.add_assoc off] at this; exact this) (beq_eq_false_iff_ne.2 hz0) (fun q => (uv_is (uv_at hlen hcap hp (cz2 w2 hB2) hr hS q)).2.2 hkd)))
  obtain ⟨so, hso⟩ : ∃ so, (if cap = p + 1 then some (⟨b, off, none⟩ : Addr) else some ⟨b, off + (p + 1), none⟩) = so := ⟨_, rfl⟩
  have hsoN : 0 < n → so = some ⟨b, off + (p + 1), none⟩ := fun h => by rw [← hso, if_neg (by omega)]
  have HSO := hide hsoN
  clear hcl hg hsite hsoN
  go_enter Ybad.func3, Ybad.ntmps3
  go_wp2_with fail
  refine (HCL.out _).mono ?_
  rintro e w' ⟨rfl, hw'⟩
  subst hw'
  go_wp2_with fail
  refine HOP.out.mono ?_
  rintro e w2 ⟨⟨so2, c2, rfl, hso2⟩, hD2, hB2⟩
  have HSO2 := hide hso2
  have gz : w2.cell? ⟨b, off + p, none⟩ = some (.int .u8 n) := (hB2.cell (p := ⟨b, off + p, none⟩) (by exact hb)).trans (((below_new _ _).cell (p := ⟨b, off + p, none⟩) hb).trans hz)
  have gcz := hide (cz2 w2 hB2)
  have gs : Hid (∀ i, i < n → w2.cell? ⟨b, off + (p + 1) + i, none⟩ = some (.int .u8 (s i))) := fun i hi => (hB2.cell (p := ⟨b, off + (p + 1) + i, none⟩) (by exact hb)).trans (((below_new _ _).cell (p := ⟨b, off + (p + 1) + i, none⟩) hb).trans (hcs i hi))
  have hb2 : b < w2.heap.size := by have := hD2.lt; omega
  have hw2 := hD2.lt
  have d0 := hD2.c0
  have d2 := hD2.c2
  have BB : Hid (∀ o q, Below w'.heap.size w' ((w2.alloc o).drewN q)) := fun o q => below_drewN (((below_new _ _).trans hB2).alloc (by have := hD2.lt; omega) o) q
  have HR := hide hr
  obtain ⟨hSle, hS10, hSb, hSs⟩ := hS
  have HSB := hide hSb
  have HSS := hide hSs
  clear hD2 hB2 cz2 hcz hr hSb hSs hso2 hcs
  have gk : w2.cell? ⟨b, off + (p + 1 + n + k), none⟩ = some (.int .u8 (z k)) := by
    have := gcz.out k hkl
    rw [Nat.add_assoc off] at this; exact this
  have zk0 : (z k == 0) = false := beq_eq_false_iff_ne.2 hz0
  generalize z k = zk at gk zk0
  have GK := hide (And.intro gk zk0)
  clear hz0 gk zk0
  go_upto_block 0 with fail
  rw [show p + 1 + n - (p + 1) = n from by omega]
  go_cut [12, 14, 15] from 75 (fun s12 s14 s15 wd => wd = w2.alloc (.cells #[.slice so2 n c2, .int .u64 (finX z k)] 28) ∧ s14 = .int .i64 1 ∧ s15 = .int .i64 ((k : Int) + 1) ∧ s12 = .int .u64 (finX z k))
  case first =>
    go_wp2_with fail
    go_loop [12, 13, 14, 15, 16] (fun s12 s13 s14 s15 s16 => ∃ j : Nat, j ≤ k ∧ s16 = .int .i64 j ∧ s13 = .int .u64 (7 * j) ∧ s12 = .int .u64 (accX z j) ∧ s14 = .int .i64 0 ∧ s15 = .int .i64 0) (fun _ _ _ _ s16 => k - (intOf s16).toNat)
    case atStart => exact ⟨0, Nat.zero_le _, rfl, rfl, rfl, rfl, rfl⟩
    case round =>
      obtain ⟨j, hj, rfl, rfl, rfl, rfl, rfl⟩ := hrel
      by_cases hjk : j < k
      · have g0 := gcz.out j (by omega)
        have r0 := HR.out j (by omega)
        have b0 := HSB.out j hjk
        have hx : accX z (j + 1) = bits BinOp.or IntKind.u64 (accX z j) (IntKind.u64.wrap (IntKind.u64.wrap (bits BinOp.and IntKind.u8 (z j) 127) * 2 ^ (7 * j))) := rfl
        generalize z j = y at *
        have HX := hide hx
        clear hx
        generalize accX z j = A at *
        have g0' : w2.cell? ⟨b, off + (p + 1 + n + j), none⟩ = some (.int .u8 y) := by rw [← g0, Nat.add_assoc off]
        clear g0
        go_wp2
        go_round
        case rel => exact ⟨j + 1, hjk, by go_num, by go_num, by rw [HX.out], rfl, rfl⟩
        case measure => simp [intOf]; omega
      · have hje : j = k := by omega
        subst hje
        have hov : j < len - (p + 1 + n) ∧ j ≠ 10 ∧ ¬ (j = 9 ∧ 1 < z 9) := by
          unfold kd at hkd
          split at hkd
          · omega
          · split at hkd
            · omega
            · split at hkd
              · omega
              · exact ⟨by omega, by assumption, by assumption⟩
        obtain ⟨hlt, h10, h9⟩ := hov
        have g0 := gcz.out j hlt
        have r0 := HR.out j hlt
        have hz1 : z j < 128 := by
          rcases HSS.out with h | h | h
          · omega
          · omega
          · exact h
        have g0' : w2.cell? ⟨b, off + (p + 1 + n + j), none⟩ = some (.int .u8 (z j)) := by rw [← g0, Nat.add_assoc off]
        have h99 : j = 9 → ¬ 1 < z j := fun e h => h9 ⟨e, by rw [← e]; exact h⟩
        have hfin : finX z j = bits BinOp.or IntKind.u64 (accX z j) (IntKind.u64.wrap (z j * 2 ^ (7 * j))) := rfl
        have HFF := hide hfin
        have e10 : ((j : Int) == 10) = false := beq_eq_false_iff_ne.2 (by omega)
        clear g0 hkd h9 hfin
        generalize z j = y at *
        generalize accX z j = A at *
        by_cases e9 : j = 9
        · have q9 := h99 e9
          have e9' : ((j : Int) == 9) = true := beq_iff_eq.2 (by omega)
          clear h99 e9 h10
          go_wp2
          go_meet
          case rel => exact ⟨rfl, rfl, rfl, by rw [HFF.out]⟩
        · have e9' : ((j : Int) == 9) = false := beq_eq_false_iff_ne.2 (by omega)
          clear h99
          go_wp2
          go_meet
          case rel => exact ⟨rfl, rfl, rfl, by rw [HFF.out]⟩
  case rest =>
    obtain ⟨rfl, rfl, rfl, rfl⟩ := hcut
    have i0 : ((p : Int) + 1 + n + ((k : Int) + 1) - 1) = ((p + 1 + n + k : Nat) : Int) := by omega
    obtain ⟨gk, zk0⟩ := GK.out
    generalize finX z k = X at *
    go_wp2
    go_loopw [18] (fun s18 wx => ∃ i q : Nat, i ≤ n ∧ s18 = .int .i64 i ∧ wx = (w2.alloc (.cells #[.slice so2 n c2, .int .u64 X] 28)).drewN q) (fun s18 _ => n - (intOf s18).toNat)
    case atStart => exact ⟨0, 0, Nat.zero_le _, rfl, rfl⟩
    case round =>
      obtain ⟨i, q, hi, rfl, rfl⟩ := hrel
      by_cases hin : i < n
      · obtain rfl := HSO.out (by omega)
        obtain rfl := HSO2.out (by omega)
        have gi := gs.out i hin
        have ne : (s i != s i) = false := by simp
        generalize s i = y at *
        clear hso
        go_wp2
        go_quiet (fail)
        go_wp2
        go_roundw
        case rel => exact ⟨i + 1, _, hin, by go_num, rfl⟩
        case measure => simp [intOf]; omega
      · go_wp2
        go_ret
        exact ⟨rfl, BB.out _ _⟩

end Go.Proofs.YbulkbdjgDoor
