/- slices.Equal at []int, []string, and samekids: equal cells give true. -/
import Derived.Test.YbulkbdlkCopy
import Derived.Lib.Builder
import Derived.LaidEqlPtr
namespace Go.Proofs.Ybulkbdlk
open Go.RowKit

theorem Yba.size32 : (Yba.prog.info? 32).map (·.size) = some 4 := by kernel_rfl
theorem Yba.size26 : (Yba.prog.info? 26).map (·.size) = some 1 := by kernel_rfl
theorem ne30 (a : Addr) (w : World) : (binOp .neq 30 (.pointer (some a)) (.pointer (some a))).run Yba.prog w = .ok (.bool false) w := by
  obtain ⟨j, hj, _⟩ := Option.map_eq_some_iff.1 Yba.size32
  exact Lib.run_neq_ptr_same w a Yba.underlying30 hj
theorem eq30 (a : Addr) (w : World) : (binOp .eql 30 (.pointer (some a)) (.pointer (some a))).run Yba.prog w = .ok (.bool true) w := by
  obtain ⟨j, hj, _⟩ := Option.map_eq_some_iff.1 Yba.size32
  exact run_eql_ptr_same w a Yba.underlying30 hj
theorem ne24 (a : Addr) (w : World) : (binOp .neq 24 (.pointer (some a)) (.pointer (some a))).run Yba.prog w = .ok (.bool false) w := by
  obtain ⟨j, hj, _⟩ := Option.map_eq_some_iff.1 Yba.size26
  exact Lib.run_neq_ptr_same w a Yba.underlying24 hj
theorem eq24 (a : Addr) (w : World) : (binOp .eql 24 (.pointer (some a)) (.pointer (some a))).run Yba.prog w = .ok (.bool true) w := by
  obtain ⟨j, hj, _⟩ := Option.map_eq_some_iff.1 Yba.size26
  exact run_eql_ptr_same w a Yba.underlying24 hj
theorem eq30_other {a b : Addr} {ca cb : Array Value} {ta tb : TypeId} (w : World) (hne : a ≠ b) (ha : w.heap[a.block]? = some (.cells ca ta (0, 0))) (hb : w.heap[b.block]? = some (.cells cb tb (0, 0))) :
    (binOp .eql 30 (.pointer (some a)) (.pointer (some b))).run Yba.prog w = .ok (.bool false) w := by
  obtain ⟨j, hj, hs⟩ := Option.map_eq_some_iff.1 Yba.size32
  exact run_eql_ptr_other w Yba.underlying30 hj (by omega) hne ha hb
theorem eq24_other {a b : Addr} {ca cb : Array Value} {ta tb : TypeId} (w : World) (hne : a ≠ b) (ha : w.heap[a.block]? = some (.cells ca ta (0, 0))) (hb : w.heap[b.block]? = some (.cells cb tb (0, 0))) :
    (binOp .eql 24 (.pointer (some a)) (.pointer (some b))).run Yba.prog w = .ok (.bool false) w := by
  obtain ⟨j, hj, hs⟩ := Option.map_eq_some_iff.1 Yba.size26
  exact run_eql_ptr_other w Yba.underlying24 hj (by omega) hne ha hb

set_option maxRecDepth 100000 in
set_option maxHeartbeats 400000 in
theorem equal8 (a1 a2 : Option Addr) (b1 o1 n c b2 o2 d : Nat) (f : Nat → Int) (w : World) (hn : n ≤ 1024)
    (h1 : 0 < n → a1 = some ⟨b1, o1, none⟩) (h2 : 0 < n → a2 = some ⟨b2, o2, none⟩)
    (hc1 : ∀ j, j < n → w.cell? ⟨b1, o1 + j, none⟩ = some (.int .i64 (f j))) (hc2 : ∀ j, j < n → w.cell? ⟨b2, o2 + j, none⟩ = some (.int .i64 (f j))) :
    Calls Yba.prog 8 #[.slice a1 n c, .slice a2 n d] w fun e w' => e = .returned (.bool true) ∧ ∃ q, w' = w.drewN q := by
  have A1 : Aside (∀ j, j < n → w.cell? ⟨b1, o1 + j, none⟩ = some (.int .i64 (f j))) := hc1
  have A2 : Aside (∀ j, j < n → w.cell? ⟨b2, o2 + j, none⟩ = some (.int .i64 (f j))) := hc2
  have B1 : Aside (0 < n → a1 = some ⟨b1, o1, none⟩) := h1
  have B2 : Aside (0 < n → a2 = some ⟨b2, o2, none⟩) := h2
  clear hc1 hc2 h1 h2
  go_enter Yba.func8, Yba.ntmps8
  go_wp2
  go_loopg [13] n (fun g s wr => ∃ k q : Nat, k ≤ n ∧ n - k ≤ g ∧ s = .int .i64 k ∧ wr = w.drewN q)
  case atStart => exact ⟨0, 0, Nat.zero_le _, by omega, rfl, rfl⟩
  case round =>
    obtain ⟨k, q, hk, hg, rfl, rfl⟩ := hrel
    by_cases hlt : k < n
    · have g1 : w.cell? ⟨b1, o1 + k, none⟩ = some (.int .i64 (f k)) := A1.out k hlt
      have g2 : w.cell? ⟨b2, o2 + k, none⟩ = some (.int .i64 (f k)) := A2.out k hlt
      obtain rfl := B1.out (by omega)
      obtain rfl := B2.out (by omega)
      generalize f k = x at g1 g2
      go_wp2_with fail
      go_quiet (fail)
      go_wp2
      go_roundg (n - (k + 1))
      case measure => omega
      case rel =>
        exact ⟨k + 1, _, by omega, by omega, by go_num, rfl⟩
    · have : k = n := by omega
      subst this
      go_wp2
      go_ret
      exact ⟨rfl, q, rfl⟩

set_option maxRecDepth 100000 in
set_option maxHeartbeats 400000 in
theorem equal9 (a1 a2 : Option Addr) (b1 o1 n c b2 o2 d : Nat) (f : Nat → ByteArray) (w : World) (hn : n ≤ 1024)
    (h1 : 0 < n → a1 = some ⟨b1, o1, none⟩) (h2 : 0 < n → a2 = some ⟨b2, o2, none⟩)
    (hc1 : ∀ j, j < n → w.cell? ⟨b1, o1 + j, none⟩ = some (.string (f j))) (hc2 : ∀ j, j < n → w.cell? ⟨b2, o2 + j, none⟩ = some (.string (f j))) :
    Calls Yba.prog 9 #[.slice a1 n c, .slice a2 n d] w fun e w' => e = .returned (.bool true) ∧ ∃ q, w' = w.drewN q := by
  have A1 : Aside (∀ j, j < n → w.cell? ⟨b1, o1 + j, none⟩ = some (.string (f j))) := hc1
  have A2 : Aside (∀ j, j < n → w.cell? ⟨b2, o2 + j, none⟩ = some (.string (f j))) := hc2
  have B1 : Aside (0 < n → a1 = some ⟨b1, o1, none⟩) := h1
  have B2 : Aside (0 < n → a2 = some ⟨b2, o2, none⟩) := h2
  clear hc1 hc2 h1 h2
  go_enter Yba.func9, Yba.ntmps9
  go_wp2
  go_loopg [13] n (fun g s wr => ∃ k q : Nat, k ≤ n ∧ n - k ≤ g ∧ s = .int .i64 k ∧ wr = w.drewN q)
  case atStart => exact ⟨0, 0, Nat.zero_le _, by omega, rfl, rfl⟩
  case round =>
    obtain ⟨k, q, hk, hg, rfl, rfl⟩ := hrel
    by_cases hlt : k < n
    · have g1 : w.cell? ⟨b1, o1 + k, none⟩ = some (.string (f k)) := A1.out k hlt
      have g2 : w.cell? ⟨b2, o2 + k, none⟩ = some (.string (f k)) := A2.out k hlt
      obtain rfl := B1.out (by omega)
      obtain rfl := B2.out (by omega)
      generalize f k = x at g1 g2
      go_wp2_with fail
      go_quiet (fail)
      go_wp2
      go_roundg (n - (k + 1))
      case measure => omega
      case rel =>
        exact ⟨k + 1, _, by omega, by omega, by go_num, rfl⟩
    · have : k = n := by omega
      subst this
      go_wp2
      go_ret
      exact ⟨rfl, q, rfl⟩

set_option maxRecDepth 100000 in
set_option maxHeartbeats 400000 in
theorem equal10 (a1 a2 : Option Addr) (b1 o1 n c b2 o2 d : Nat) (f : Nat → Nat) (w : World) (hn : n ≤ 1024)
    (h1 : 0 < n → a1 = some ⟨b1, o1, none⟩) (h2 : 0 < n → a2 = some ⟨b2, o2, none⟩)
    (hc1 : ∀ j, j < n → w.cell? ⟨b1, o1 + j, none⟩ = some (.pointer (some ⟨f j, 0, none⟩))) (hc2 : ∀ j, j < n → w.cell? ⟨b2, o2 + j, none⟩ = some (.pointer (some ⟨f j, 0, none⟩))) :
    Calls Yba.prog 10 #[.slice a1 n c, .slice a2 n d] w fun e w' => e = .returned (.bool true) ∧ ∃ q, w' = w.drewN q := by
  have A1 : Aside (∀ j, j < n → w.cell? ⟨b1, o1 + j, none⟩ = some (.pointer (some ⟨f j, 0, none⟩))) := hc1
  have A2 : Aside (∀ j, j < n → w.cell? ⟨b2, o2 + j, none⟩ = some (.pointer (some ⟨f j, 0, none⟩))) := hc2
  have B1 : Aside (0 < n → a1 = some ⟨b1, o1, none⟩) := h1
  have B2 : Aside (0 < n → a2 = some ⟨b2, o2, none⟩) := h2
  clear hc1 hc2 h1 h2
  have hne := ne30
  go_enter Yba.func10, Yba.ntmps10
  go_wp2
  go_loopg [5] n (fun g s wr => ∃ k q : Nat, k ≤ n ∧ n - k ≤ g ∧ s = .int .i64 k ∧ wr = w.drewN q)
  case atStart => exact ⟨0, 0, Nat.zero_le _, by omega, rfl, rfl⟩
  case round =>
    obtain ⟨k, q, hk, hg, rfl, rfl⟩ := hrel
    by_cases hlt : k < n
    · have g1 : w.cell? ⟨b1, o1 + k, none⟩ = some (.pointer (some ⟨f k, 0, none⟩)) := A1.out k hlt
      have g2 : w.cell? ⟨b2, o2 + k, none⟩ = some (.pointer (some ⟨f k, 0, none⟩)) := A2.out k hlt
      obtain rfl := B1.out (by omega)
      obtain rfl := B2.out (by omega)
      generalize f k = x at g1 g2
      go_wp2_with fail
      go_quiet (fail)
      go_wp2
      go_roundg (n - (k + 1))
      case measure => omega
      case rel =>
        exact ⟨k + 1, _, by omega, by omega, by go_num, rfl⟩
    · have : k = n := by omega
      subst this
      go_wp2
      go_ret
      exact ⟨rfl, q, rfl⟩

end Go.Proofs.Ybulkbdlk
