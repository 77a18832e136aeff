/- LawS2727AOwn: what the children's loop holds; the plain facts. -/
import Derived.Test.YbulkbdlkOwn
import Derived.Deep.CutRange
import Derived.Deep.DeepCutAuto
import Derived.Deep.CutBlock
namespace Go.Proofs.Ybulkbdlk
open Go.RowKit

def ints (f : Nat → Int) (n : Nat) : List Value := (List.range n).map fun j => .int .i64 (f j)
def strs (f : Nat → ByteArray) (n : Nat) : List Value := (List.range n).map fun j => .string (f j)
def ptrs (f : Nat → Nat) (n : Nat) : List Value := (List.range n).map fun j => .pointer (some ⟨f j, 0, none⟩)

theorem ints_get (f : Nat → Int) {n j : Nat} (h : j < n) : (ints f n)[j]? = some (.int .i64 (f j)) := by simp [ints, h]
theorem strs_get (f : Nat → ByteArray) {n j : Nat} (h : j < n) : (strs f n)[j]? = some (.string (f j)) := by simp [strs, h]
theorem ptrs_get (f : Nat → Nat) {n j : Nat} (h : j < n) : (ptrs f n)[j]? = some (.pointer (some ⟨f j, 0, none⟩)) := by simp [ptrs, h]

theorem src_of {w : World} {a : Option Addr} {n b o : Nat} {F : Nat → Value} (hn : n ≤ 1024) (hz : a = none → n = 0) (ha : 0 < n → a = some ⟨b, o, none⟩)
    (hc : ∀ j, j < n → w.cell? ⟨b, o + j, none⟩ = some (F j)) (h1 : ∀ j, (F j).oneCell' = true) : Src w a n ((List.range n).map F) := by
  refine ⟨by simp, hn, hz, ?_, ?_⟩
  · intro ad had j u hj
    have hjn : j < n := by
      rcases Nat.lt_or_ge j n with h | h
      · exact h
      · rw [List.getElem?_eq_none (by simpa using h)] at hj; cases hj
    rw [ha (by omega)] at had
    obtain rfl := Option.some.inj had
    rw [Addr.add_lit, hc j hjn, ← hj]
    simp [hjn]
  · intro u hu
    obtain ⟨j, _, rfl⟩ := List.mem_map.1 hu
    exact h1 j

/-- The children made so far. -/
def Kids (w0 wr : World) (v : Value) (i : Nat) : Prop :=
  ∃ f : Nat → Nat, wr.ownsRow w0.heap.size 30 1 v i (ptrs f i) ∧ v ≠ .slice none 0 0 ∧ Below w0.heap.size w0 wr

theorem ownsRow_below {w w' : World} {base : Nat} {e : TypeId} {v : Value} {n : Nat} {xs : List Value} (h : w.ownsRow base e 1 v n xs) (hb : Below w.heap.size w w') : w'.ownsRow base e 1 v n xs := by
  refine ⟨h.1, ?_⟩
  rcases h.2 with h | ⟨g, cap, cur, hv, hg, hh, rest⟩
  · exact .inl h
  · refine .inr ⟨g, cap, cur, hv, hg, ?_, rest⟩
    have hlt : g < w.heap.size := by
      rcases Nat.lt_or_ge g w.heap.size with h' | h'
      · exact h'
      · rw [Array.getElem?_eq_none h'] at hh; cases hh
    rw [hb.block g hlt]; exact hh

theorem ptrs_snoc (f : Nat → Nat) (i b : Nat) : ptrs f i ++ [.pointer (some ⟨b, 0, none⟩)] = ptrs (fun j => if j = i then b else f j) (i + 1) := by
  unfold ptrs
  rw [List.range_succ, List.map_append]
  simp only [List.map_cons, List.map_nil, if_true]
  congr 1
  apply List.map_congr_left
  intro j hj
  have : j < i := List.mem_range.1 hj
  rw [if_neg (by omega)]

/-- What the cut behind the children leaves. -/
def KidsDone (w0 wr : World) (v : Value) : Prop :=
  ∃ (a : Option Addr) (n c g : Nat) (f : Nat → Nat), v = .slice a n c ∧ n ≤ 7 ∧ (0 < n → a = some ⟨g, 0, none⟩ ∧ g < wr.heap.size) ∧ Src wr a n (ptrs f n) ∧ Below w0.heap.size w0 wr

theorem kids_nil (w : World) : KidsDone w w (.slice none 0 0) :=
  ⟨none, 0, 0, 0, fun _ => 0, rfl, by omega, by omega, ⟨by simp [ptrs], by omega, fun _ => rfl, by simp, by simp [ptrs]⟩, Below.refl _ _⟩

theorem kids_done {w wr : World} {v : Value} {i : Nat} (h : Kids w wr v i) (hi : i ≤ 7) : KidsDone w wr v := by
  obtain ⟨f, ⟨hl, hv | ⟨g, cap, cur, rfl, hg, hh, hn, hm, hs, ht⟩⟩, hnil, hb⟩ := h
  · exact absurd hv.1 hnil
  · have hlt : g < wr.heap.size := by
      rcases Nat.lt_or_ge g wr.heap.size with h' | h'
      · exact h'
      · rw [Array.getElem?_eq_none h'] at hh; cases hh
    refine ⟨_, i, cap, g, f, rfl, hi, fun _ => ⟨rfl, hlt⟩, ⟨by simp [ptrs], by omega, by simp, ?_, ?_⟩, hb⟩
    · intro ad had j u hj
      obtain rfl := Option.some.inj had
      rw [Addr.add_lit, cell_of_row wr g _ cur 30 (0, 0) hh, ← Array.getElem?_toList, Nat.zero_add]
      rw [← ht, List.getElem?_take] at hj
      split at hj
      · exact hj
      · cases hj
    · intro u hu
      obtain ⟨j, _, rfl⟩ := List.mem_map.1 hu
      rfl

end Go.Proofs.Ybulkbdlk
