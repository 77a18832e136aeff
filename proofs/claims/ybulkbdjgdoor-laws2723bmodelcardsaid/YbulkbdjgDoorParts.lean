import Derived.Test.YbulkbdjgDoorSlot
import Derived.OneCell
import Derived.Deep.AppendLies
namespace Go.Proofs.YbulkbdjgDoor
open Go.RowKit

/-- What the first loop has gathered: es, its lanes in block B + 1, its n's in block B + 2. -/
structure Gath (B : Nat) (w wr : World) (es : List (Int × Int)) : Prop where
  below : Below B w wr
  sz : B + 3 ≤ wr.heap.size
  oL : wr.ownsRow (B + 1) 3 1 (.slice (some ⟨B + 1, 0, none⟩) es.length 48) es.length (es.map fun e => .int .i64 e.1)
  oN : wr.ownsRow (B + 1) 3 1 (.slice (some ⟨B + 1 + 1, 0, none⟩) es.length 48) es.length (es.map fun e => .int .i64 e.2)
  nod : es.Pairwise (fun a b => a.1 ≠ b.1)
  rng : ∀ e, e ∈ es → 0 ≤ e.1 ∧ e.1 < 64
  le : es.length ≤ 48

def usedB (es : List (Int × Int)) (j : Nat) : Bool := es.any (fun e => e.1 == (j : Int))
/-- The array 'used' in block B. -/
structure UsedIs (B : Nat) (wr : World) (es : List (Int × Int)) : Prop where
  cell : ∀ j, j < 64 → wr.cell? ⟨B, j, none⟩ = some (.bool (usedB es j))
  free : ∀ j, wr.frozen? ⟨B, j, none⟩ = false

theorem cell_one (w : World) (x : Value) (t : TypeId) : ∀ j u, [x][j]? = some u → (w.alloc (.cells #[x] t)).cell? ((⟨w.heap.size, 0, none⟩ : Addr).add j) = some u := by
  intro j u hj
  match j, hj with
  | 0, hj => simp at hj; subst hj; simp [Addr.add]
  | (j + 1), hj => simp at hj
theorem one_cell_int (k : IntKind) (n : Int) : ∀ u ∈ [Value.int k n], u.oneCell' = true := by
  intro u hu; simp at hu; subst hu; rfl

variable {B : Nat} {w wr : World} {es : List (Int × Int)}

/-- Whatever grows without touching the two rows keeps what is gathered. -/
theorem Gath.grown (h : Gath B w wr es) {w' : World} {row : Option Nat} (hg : wr.grownBy w' row) (h1 : row ≠ some (B + 1)) (h2 : row ≠ some (B + 1 + 1)) (hr : ∀ k, row = some k → B ≤ k) : Gath B w w' es where
  below := h.below.grown hg (by have := h.sz; omega) hr
  sz := Nat.le_trans h.sz hg.size
  oL := h.oL.kept hg (.inr (by simpa [Value.ownBlock] using fun e => h1 e.symm))
  oN := h.oN.kept hg (.inr (by simpa [Value.ownBlock] using fun e => h2 e.symm))
  nod := h.nod
  rng := h.rng
  le := h.le
theorem Gath.alloc (h : Gath B w wr es) (o : Obj) : Gath B w (wr.alloc o) es := h.grown (World.grownBy_alloc wr o none) (by simp) (by simp) (by simp)
theorem UsedIs.grown (h : UsedIs B wr es) (hB : B < wr.heap.size) {w' : World} {row : Option Nat} (hg : wr.grownBy w' row) (h1 : row ≠ some B) : UsedIs B w' es where
  cell j hj := (hg.cell_far ⟨B, j, none⟩ hB (fun e => h1 e.symm)).trans (h.cell j hj)
  free j := (hg.frozen_far ⟨B, j, none⟩ hB (fun e => h1 e.symm)).trans (h.free j)
theorem UsedIs.alloc (h : UsedIs B wr es) (hB : B < wr.heap.size) (o : Obj) : UsedIs B (wr.alloc o) es := h.grown hB (World.grownBy_alloc wr o none) (by simp)

theorem usedB_snoc (es : List (Int × Int)) (l : Nat) (y : Int) (j : Nat) : usedB (es ++ [((l : Int), y)]) j = (usedB es j || l == j) := by
  unfold usedB
  rw [List.any_append]
  congr 1
  simp only [List.any_cons, List.any_nil, Bool.or_false]
  by_cases h : l = j
  · subst h; simp
  · have h2 : ¬ (l : Int) = (j : Int) := by omega
    rw [beq_eq_false_iff_ne.2 h2, beq_eq_false_iff_ne.2 h]

theorem UsedIs.store (h : UsedIs B wr es) (_hB : B < wr.heap.size) (l : Nat) (y : Int) (hl : l < 64) : UsedIs B (wr.setCell ⟨B, l, none⟩ (.bool true)) (es ++ [((l : Int), y)]) where
  cell j hj := by
    rw [usedB_snoc]
    by_cases e : l = j
    · subst e
      obtain ⟨v, hv⟩ : ∃ v, wr.cell? ⟨B, l, none⟩ = some v := ⟨_, h.cell l hl⟩
      rw [World.cell?_setCell_same _ _ _ hv]
      simp
    · have hne : (⟨B, l, none⟩ : Addr) ≠ ⟨B, j, none⟩ := fun h => e (by cases h; rfl)
      rw [World.cell?_setCell_other _ _ _ _ hne, h.cell j hj]
      simp [e]
  free j := by simp [h.free j]

theorem not_used {l : Nat} (hu : usedB es l = false) : ∀ e, e ∈ es → e.1 ≠ (l : Int) := by
  intro e he e1
  unfold usedB at hu
  rw [List.any_eq_false] at hu
  exact hu e he (by simp [e1])

theorem pre_L (hG : Gath B w wr es) (l : Nat) (v : Value) (box one : Obj) : (((wr.setCell ⟨B, l, none⟩ v).alloc box).alloc one).ownsRow (B + 1) 3 1 (.slice (some ⟨B + 1, 0, none⟩) es.length 48) es.length (es.map fun e => .int .i64 e.1) :=
  ((ownsRow_setCell_other hG.oL (a := ⟨B, l, none⟩) (by simp [Value.ownBlock]) v).alloc _).alloc _
theorem mid_N {l : Nat} {v x y : Value} {t : TypeId} {one : Obj} {w1 : World} (hG : Gath B w wr es) (g1 : (((wr.setCell ⟨B, l, none⟩ v).alloc (.cells #[x, y] t)).alloc one).grownBy w1 (some (B + 1))) :
    w1.ownsRow (B + 1) 3 1 (.slice (some ⟨B + 1 + 1, 0, none⟩) es.length 48) es.length (es.map fun e => .int .i64 e.2) ∧ w1.cell? ⟨wr.heap.size, 1, none⟩ = some y ∧ wr.heap.size + 2 ≤ w1.heap.size := by
  have hs := hG.sz
  refine ⟨?_, ?_, ?_⟩
  · exact (((ownsRow_setCell_other hG.oN (a := ⟨B, l, none⟩) (by simp [Value.ownBlock]; omega) v).alloc _).alloc _).kept g1 (.inr (by simp [Value.ownBlock]))
  · refine g1.cell ?_ (by simp; omega)
    have : (((wr.setCell ⟨B, l, none⟩ v).alloc (.cells #[x, y] t)).cell? ⟨wr.heap.size, 1, none⟩) = some y := by
      rw [World.cell?_alloc_at _ _ _ _ (by simp)]; rfl
    rw [World.cell?_alloc_lt _ _ _ (by simp)]
    exact this
  · have := g1.size
    simpa using this

theorem gath_step {l : Nat} {y : Int} {box one one2 : Obj} {w1 w2 : World} (hG : Gath B w wr es) (hU : UsedIs B wr es) (hl : l < 64) (hu : usedB es l = false) (h48 : es.length < 48)
    (h1 : w1.ownsRow (B + 1) 3 1 (.slice (some ⟨B + 1, 0, none⟩) (es.length + 1) 48) (es.length + 1) ((es.map fun e => .int .i64 e.1) ++ [.int .i64 l])) (g1 : (((wr.setCell ⟨B, l, none⟩ (.bool true)).alloc box).alloc one).grownBy w1 (some (B + 1)))
    (h2 : w2.ownsRow (B + 1) 3 1 (.slice (some ⟨B + 1 + 1, 0, none⟩) (es.length + 1) 48) (es.length + 1) ((es.map fun e => .int .i64 e.2) ++ [.int .i64 y])) (g2 : (w1.alloc one2).grownBy w2 (some (B + 1 + 1))) :
    Gath B w w2 (es ++ [((l : Int), y)]) ∧ UsedIs B w2 (es ++ [((l : Int), y)]) := by
  have s0 := hG.sz
  have s1 := g1.size
  have s2 := g2.size
  simp at s1 s2
  refine ⟨⟨?_, by omega, ?_, ?_, ?_, ?_, by simp; omega⟩, ?_⟩
  · refine ((((((hG.below.setCell (p := ⟨B, l, none⟩) (Nat.le_refl _) _).alloc (by simp; omega) _).alloc (by simp; omega) _).grown g1 (by simp; omega) (by simp)).alloc (by omega) _).grown g2 (by simp; omega) (by simp; omega))
  · have := (h1.alloc one2).kept g2 (.inr (by simp [Value.ownBlock]))
    simpa using this
  · simpa using h2
  · rw [List.pairwise_append]
    exact ⟨hG.nod, List.pairwise_singleton _ _, fun a ha b hb => by simp at hb; subst hb; exact not_used hu a ha⟩
  · intro e he
    rcases List.mem_append.1 he with h | h
    · exact hG.rng e h
    · simp at h; subst h; exact ⟨by simp, by simp; omega⟩
  · refine UsedIs.grown (UsedIs.alloc (UsedIs.grown (UsedIs.alloc (UsedIs.alloc (hU.store (by omega) l y hl) (by simp; omega) _) (by simp; omega) _) (by simp; omega) g1 (by simp)) (by omega) _) (by simp; omega) g2 (by simp; omega)

def Z48 : Array Value := madeCells #[.int .i64 0] 48
theorem mk48 : ∀ w, (Instr.makeSlice 39 (.int .i64 0) (.int .i64 48)).run Ybad.prog w = .ok (.slice (some ⟨w.heap.size, 0, none⟩) 0 48) (w.alloc (.cells Z48 3)) := fun _ => by kernel_rfl
theorem size_Z48 : Z48.size = 48 * 1 := by simp [Z48, madeCells]
theorem gath_start (w : World) (c : Array Value) (t : TypeId) (hc : c = Array.replicate 64 (.bool false)) :
    Gath w.heap.size w (((w.alloc (.cells c t)).alloc (.cells Z48 3)).alloc (.cells Z48 3)) [] ∧ UsedIs w.heap.size (((w.alloc (.cells c t)).alloc (.cells Z48 3)).alloc (.cells Z48 3)) [] := by
  refine ⟨⟨?_, by simp, ?_, ?_, List.Pairwise.nil, by simp, by simp⟩, ⟨?_, ?_⟩⟩
  · exact (((Below.refl _ _).alloc (Nat.le_refl _) _).alloc (by simp) _).alloc (by simp; omega) _
  · have := (World.ownsRow_made (w := w.alloc (.cells c t)) (e := 3) (size := 1) (base := w.heap.size + 1) Z48 48 (by simp) (by simp [maxLen]) size_Z48).alloc (.cells Z48 3)
    simpa using this
  · have := World.ownsRow_made (w := (w.alloc (.cells c t)).alloc (.cells Z48 3)) (e := 3) (size := 1) (base := w.heap.size + 1) Z48 48 (by simp) (by simp [maxLen]) size_Z48
    simpa using this
  · intro j hj
    rw [World.cell?_alloc_lt _ _ _ (by simp; omega), World.cell?_alloc_lt _ _ _ (by simp), World.cell?_alloc_at _ _ _ _ rfl, hc]
    simp [hj, usedB]
  · intro j
    rw [World.frozen?_alloc_past _ _ _ (by simp; omega), World.frozen?_alloc_past _ _ _ (by simp), World.frozen?_alloc_at _ _ _ _ rfl]
end Go.Proofs.YbulkbdjgDoor
