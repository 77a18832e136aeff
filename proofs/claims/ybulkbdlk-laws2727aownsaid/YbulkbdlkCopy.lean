/- slices.Clone, slices.Equal and the helpers of LawS2727AOwn, walked. -/
import Derived.Test.YbulkbdlkRows
import Derived.WalkKit
import Derived.WalkSpells
import Derived.WalkLawsBesides
import Derived.BigQuiet
import Derived.Handy
import Derived.Lib.SliceRun
import Derived.Lib.Walk
import Derived.Deep.LoopGhost
namespace Go.Proofs.Ybulkbdlk
open Go.RowKit

theorem hide {p : Prop} (h : p) : Hid p := h

/-- A copy of a slice: nil of nil; else a row in a block of its own. -/
structure Cop (w w' : World) (a a' : Option Addr) (g n : Nat) (xs : List Value) (e : TypeId) : Prop where
  isn : a'.isNone = a.isNone
  spot : 0 < n → a' = some ⟨g, 0, none⟩
  ge : 0 < n → w.heap.size ≤ g
  lt : 0 < n → g < w'.heap.size
  cells : ∀ j u, xs[j]? = some u → w'.cell? ⟨g, j, none⟩ = some u
  open_ : 0 < n → ∃ cur, w'.heap[g]? = some (.cells cur e (0, 0)) ∧ n ≤ cur.size
  below : Below w.heap.size w w'

theorem q22 (w : World) (a : Option Addr) (n c n' c' : Nat) : (binOp .eql 22 (.slice a n c) (.slice none n' c')).run Yba.prog w = .ok (.bool a.isNone) w := Lib.run_eql_slice_nil w _ _ a n c n' c' Yba.underlying22
theorem q23 (w : World) (a : Option Addr) (n c n' c' : Nat) : (binOp .eql 23 (.slice a n c) (.slice none n' c')).run Yba.prog w = .ok (.bool a.isNone) w := Lib.run_eql_slice_nil w _ _ a n c n' c' Yba.underlying23
theorem q29 (w : World) (a : Option Addr) (n c n' c' : Nat) : (binOp .eql 29 (.slice a n c) (.slice none n' c')).run Yba.prog w = .ok (.bool a.isNone) w := Lib.run_eql_slice_nil w _ _ a n c n' c' Yba.underlying29

theorem info_parts {P : Program} {t : TypeId} {z : Value} {a b : Nat} (h : (P.info? t).map (fun i => (i.zero, i.size, i.bytes)) = some (some z, a, b)) : ∃ i, P.info? t = some i ∧ i.zero = some z ∧ i.size = a ∧ i.bytes = b := by
  obtain ⟨i, hi, he⟩ := Option.map_eq_some_iff.1 h
  simp only [Prod.mk.injEq] at he
  exact ⟨i, hi, he.1, he.2.1, he.2.2⟩
theorem Yba.info3 : (Yba.prog.info? 3).map (fun i => (i.zero, i.size, i.bytes)) = some (some (.int .i64 0), 1, 8) := by kernel_rfl
theorem Yba.info9 : (Yba.prog.info? 9).map (fun i => (i.zero, i.size, i.bytes)) = some (some (.string ⟨#[]⟩), 1, 16) := by kernel_rfl
theorem Yba.info30 : (Yba.prog.info? 30).map (fun i => (i.zero, i.size, i.bytes)) = some (some (.pointer none), 1, 8) := by kernel_rfl

/-- The copy out of what the law on append gives. -/
theorem cop_of_own {w w' : World} {ad : Addr} {v' : Value} {n : Nat} {xs : List Value} {e : TypeId} (hown : w'.ownsRow w.heap.size e 1 v' n xs) (hnil : v' ≠ .slice none 0 0) (hb : Below w.heap.size w w') :
    ∃ a' g c', v' = .slice a' n c' ∧ Cop w w' (some ad) a' g n xs e := by
  obtain ⟨hl, hv | ⟨g, cap, cur, rfl, hg, hh, hn, hm, hs, ht⟩⟩ := hown
  · exact absurd hv.1 hnil
  · refine ⟨_, g, cap, rfl, rfl, fun _ => rfl, fun _ => hg, fun _ => ?_, ?_, fun _ => ⟨cur, hh, by omega⟩, hb⟩
    · rcases Nat.lt_or_ge g w'.heap.size with h | h
      · exact h
      · rw [Array.getElem?_eq_none h] at hh; cases hh
    · intro j u hj
      rw [cell_of_row w' g j cur e (0, 0) hh, ← Array.getElem?_toList]
      rw [← ht, List.getElem?_take] at hj
      split at hj
      · exact hj
      · cases hj

theorem cop_nil (w : World) (n : Nat) (xs : List Value) (e : TypeId) (hn : n = 0) (hx : xs = []) : Cop w w none none 0 n xs e := by
  subst hn hx
  exact ⟨rfl, by omega, by omega, by omega, by simp, by omega, Below.refl _ _⟩

set_option maxRecDepth 100000 in
set_option maxHeartbeats 400000 in
theorem clone4_nil (n c : Nat) (w : World) :
    Calls Yba.prog 4 #[.slice none n c] w fun e w' => e = .returned (.slice none 0 0) ∧ w' = w := by
  have hq := q22
  go_enter Yba.func4, Yba.ntmps4
  go_wp2
  go_ret
  exact ⟨rfl, rfl⟩

set_option maxRecDepth 100000 in
set_option maxHeartbeats 400000 in
theorem clone4_some (ad : Addr) (n c : Nat) (xs : List Value) (w : World) (hl : xs.length = n) (hn : n ≤ 1024)
    (hc : ∀ j u, xs[j]? = some u → w.cell? (ad.add j) = some u) (h1 : ∀ u ∈ xs, u.oneCell' = true) :
    Calls Yba.prog 4 #[.slice (some ad) n c] w fun e w' => ∃ v', e = .returned v' ∧ w'.ownsRow w.heap.size 3 1 v' n xs ∧ v' ≠ .slice none 0 0 ∧ Below w.heap.size w w' := by
  have hq := q22
  have A : Aside (∀ j u, xs[j]? = some u → w.cell? (ad.add j) = some u) := hc
  obtain ⟨i0, hi, hz0, hz1, hz2⟩ := info_parts Yba.info3
  clear  hc
  go_enter Yba.func4, Yba.ntmps4
  go_wp2_with (at_builtin; refine wpList_append_own _ rfl _ _ 22 rfl w.heap.size 3 _ _ 1 8 Yba.underlying22 hi hz0 hz1 hz2 rfl (by omega) _ _ _ rfl (World.ownsRow_made w #[] 0 (Nat.le_refl _) (Nat.zero_le _) (by simp)) ad n c xs rfl ?qc1 ?qc2 ?qc3 ?qc4 ?qc5 ?qc6 ?_)
  case qc1 => omega
  case qc2 =>
    intro j u hj
    exact Lib.cell?_alloc_some _ (A.out j u hj)
  case qc3 => exact h1
  case qc4 => simp [maxLen]; omega
  case qc5 => omega
  case qc6 => simp
  intro v' w1 hown hgrow hnil
  go_wp2
  go_ret
  refine ⟨v', rfl, by simpa using hown, ?_, ?_⟩
  · exact hnil
  · exact ((Below.refl _ w).alloc (Nat.le_refl _) _).grown hgrow (by simp) (by intro k hk; simp [Value.ownBlock] at hk; omega)

theorem clone4 (a : Option Addr) (n c : Nat) (xs : List Value) (w : World) (hl : xs.length = n) (hn : n ≤ 1024) (h0 : a = none → n = 0)
    (hc : ∀ ad, a = some ad → ∀ j u, xs[j]? = some u → w.cell? (ad.add j) = some u) (h1 : ∀ u ∈ xs, u.oneCell' = true) :
    Calls Yba.prog 4 #[.slice a n c] w fun e w' => ∃ a' g c', e = .returned (.slice a' n c') ∧ Cop w w' a a' g n xs 3 := by
  cases a with
  | none =>
    refine (clone4_nil n c w).mono ?_
    rintro e w' ⟨rfl, rfl⟩
    have hz := h0 rfl
    exact ⟨none, 0, 0, by rw [hz], cop_nil _ _ _ _ hz (List.eq_nil_of_length_eq_zero (by omega))⟩
  | some ad =>
    refine (clone4_some ad n c xs w hl hn (hc ad rfl) h1).mono ?_
    rintro e w' ⟨v', rfl, hown, hnil, hb⟩
    obtain ⟨a', g, c', rfl, h⟩ := cop_of_own (ad := ad) hown hnil hb
    exact ⟨a', g, c', rfl, h⟩

set_option maxRecDepth 100000 in
set_option maxHeartbeats 400000 in
theorem clone5_nil (n c : Nat) (w : World) :
    Calls Yba.prog 5 #[.slice none n c] w fun e w' => e = .returned (.slice none 0 0) ∧ w' = w := by
  have hq := q23
  go_enter Yba.func5, Yba.ntmps5
  go_wp2
  go_ret
  exact ⟨rfl, rfl⟩

set_option maxRecDepth 100000 in
set_option maxHeartbeats 400000 in
theorem clone5_some (ad : Addr) (n c : Nat) (xs : List Value) (w : World) (hl : xs.length = n) (hn : n ≤ 1024)
    (hc : ∀ j u, xs[j]? = some u → w.cell? (ad.add j) = some u) (h1 : ∀ u ∈ xs, u.oneCell' = true) :
    Calls Yba.prog 5 #[.slice (some ad) n c] w fun e w' => ∃ v', e = .returned v' ∧ w'.ownsRow w.heap.size 9 1 v' n xs ∧ v' ≠ .slice none 0 0 ∧ Below w.heap.size w w' := by
  have hq := q23
  have A : Aside (∀ j u, xs[j]? = some u → w.cell? (ad.add j) = some u) := hc
  obtain ⟨i0, hi, hz0, hz1, hz2⟩ := info_parts Yba.info9
  clear  hc
  go_enter Yba.func5, Yba.ntmps5
  go_wp2_with (at_builtin; refine wpList_append_own _ rfl _ _ 23 rfl w.heap.size 9 _ _ 1 16 Yba.underlying23 hi hz0 hz1 hz2 rfl (by omega) _ _ _ rfl (World.ownsRow_made w #[] 0 (Nat.le_refl _) (Nat.zero_le _) (by simp)) ad n c xs rfl ?qc1 ?qc2 ?qc3 ?qc4 ?qc5 ?qc6 ?_)
  case qc1 => omega
  case qc2 =>
    intro j u hj
    exact Lib.cell?_alloc_some _ (A.out j u hj)
  case qc3 => exact h1
  case qc4 => simp [maxLen]; omega
  case qc5 => omega
  case qc6 => simp
  intro v' w1 hown hgrow hnil
  go_wp2
  go_ret
  refine ⟨v', rfl, by simpa using hown, ?_, ?_⟩
  · exact hnil
  · exact ((Below.refl _ w).alloc (Nat.le_refl _) _).grown hgrow (by simp) (by intro k hk; simp [Value.ownBlock] at hk; omega)

theorem clone5 (a : Option Addr) (n c : Nat) (xs : List Value) (w : World) (hl : xs.length = n) (hn : n ≤ 1024) (h0 : a = none → n = 0)
    (hc : ∀ ad, a = some ad → ∀ j u, xs[j]? = some u → w.cell? (ad.add j) = some u) (h1 : ∀ u ∈ xs, u.oneCell' = true) :
    Calls Yba.prog 5 #[.slice a n c] w fun e w' => ∃ a' g c', e = .returned (.slice a' n c') ∧ Cop w w' a a' g n xs 9 := by
  cases a with
  | none =>
    refine (clone5_nil n c w).mono ?_
    rintro e w' ⟨rfl, rfl⟩
    have hz := h0 rfl
    exact ⟨none, 0, 0, by rw [hz], cop_nil _ _ _ _ hz (List.eq_nil_of_length_eq_zero (by omega))⟩
  | some ad =>
    refine (clone5_some ad n c xs w hl hn (hc ad rfl) h1).mono ?_
    rintro e w' ⟨v', rfl, hown, hnil, hb⟩
    obtain ⟨a', g, c', rfl, h⟩ := cop_of_own (ad := ad) hown hnil hb
    exact ⟨a', g, c', rfl, h⟩

set_option maxRecDepth 100000 in
set_option maxHeartbeats 400000 in
theorem clone6_nil (n c : Nat) (w : World) :
    Calls Yba.prog 6 #[.slice none n c] w fun e w' => e = .returned (.slice none 0 0) ∧ w' = w := by
  have hq := q29
  go_enter Yba.func6, Yba.ntmps6
  go_wp2
  go_ret
  exact ⟨rfl, rfl⟩

set_option maxRecDepth 100000 in
set_option maxHeartbeats 400000 in
theorem clone6_some (ad : Addr) (n c : Nat) (xs : List Value) (w : World) (hl : xs.length = n) (hn : n ≤ 1024)
    (hc : ∀ j u, xs[j]? = some u → w.cell? (ad.add j) = some u) (h1 : ∀ u ∈ xs, u.oneCell' = true) :
    Calls Yba.prog 6 #[.slice (some ad) n c] w fun e w' => ∃ v', e = .returned v' ∧ w'.ownsRow w.heap.size 30 1 v' n xs ∧ v' ≠ .slice none 0 0 ∧ Below w.heap.size w w' := by
  have hq := q29
  have A : Aside (∀ j u, xs[j]? = some u → w.cell? (ad.add j) = some u) := hc
  obtain ⟨i0, hi, hz0, hz1, hz2⟩ := info_parts Yba.info30
  clear  hc
  go_enter Yba.func6, Yba.ntmps6
  go_wp2_with (at_builtin; refine wpList_append_own _ rfl _ _ 29 rfl w.heap.size 30 _ _ 1 8 Yba.underlying29 hi hz0 hz1 hz2 rfl (by omega) _ _ _ rfl (World.ownsRow_made w #[] 0 (Nat.le_refl _) (Nat.zero_le _) (by simp)) ad n c xs rfl ?qc1 ?qc2 ?qc3 ?qc4 ?qc5 ?qc6 ?_)
  case qc1 => omega
  case qc2 =>
    intro j u hj
    exact Lib.cell?_alloc_some _ (A.out j u hj)
  case qc3 => exact h1
  case qc4 => simp [maxLen]; omega
  case qc5 => omega
  case qc6 => simp
  intro v' w1 hown hgrow hnil
  go_wp2
  go_ret
  refine ⟨v', rfl, by simpa using hown, ?_, ?_⟩
  · exact hnil
  · exact ((Below.refl _ w).alloc (Nat.le_refl _) _).grown hgrow (by simp) (by intro k hk; simp [Value.ownBlock] at hk; omega)

theorem clone6 (a : Option Addr) (n c : Nat) (xs : List Value) (w : World) (hl : xs.length = n) (hn : n ≤ 1024) (h0 : a = none → n = 0)
    (hc : ∀ ad, a = some ad → ∀ j u, xs[j]? = some u → w.cell? (ad.add j) = some u) (h1 : ∀ u ∈ xs, u.oneCell' = true) :
    Calls Yba.prog 6 #[.slice a n c] w fun e w' => ∃ a' g c', e = .returned (.slice a' n c') ∧ Cop w w' a a' g n xs 30 := by
  cases a with
  | none =>
    refine (clone6_nil n c w).mono ?_
    rintro e w' ⟨rfl, rfl⟩
    have hz := h0 rfl
    exact ⟨none, 0, 0, by rw [hz], cop_nil _ _ _ _ hz (List.eq_nil_of_length_eq_zero (by omega))⟩
  | some ad =>
    refine (clone6_some ad n c xs w hl hn (hc ad rfl) h1).mono ?_
    rintro e w' ⟨v', rfl, hown, hnil, hb⟩
    obtain ⟨a', g, c', rfl, h⟩ := cop_of_own (ad := ad) hown hnil hb
    exact ⟨a', g, c', rfl, h⟩

end Go.Proofs.Ybulkbdlk
