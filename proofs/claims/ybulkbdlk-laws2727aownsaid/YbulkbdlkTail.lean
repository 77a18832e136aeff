/- LawS2727AOwn: plain facts for the law's second half. -/
import Derived.Test.YbulkbdlkKids
import Derived.Lib.Builder
namespace Go.Proofs.Ybulkbdlk
open Go.RowKit

/-- A slice's cells, told by a function. -/
def At (w : World) (a : Option Addr) (n : Nat) (F : Nat → Value) : Prop :=
  ∃ b o, (0 < n → a = some ⟨b, o, none⟩) ∧ ∀ j, j < n → w.cell? ⟨b, o + j, none⟩ = some (F j)

def FK (f : Nat → Int) (j : Nat) : Value := .int .i64 (f j)
def FV (f : Nat → ByteArray) (j : Nat) : Value := .string (f j)
def FC (f : Nat → Nat) (j : Nat) : Value := .pointer (some ⟨f j, 0, none⟩)

theorem At.below {w w' : World} {a : Option Addr} {n : Nat} {F : Nat → Value} (h : At w a n F) (hb : Below w.heap.size w w') : At w' a n F := by
  obtain ⟨b, o, h1, h2⟩ := h
  refine ⟨b, o, h1, fun j hj => ?_⟩
  have hc := h2 j hj
  rw [hb.cell (World.block_lt_of_cell? _ _ hc)]; exact hc

theorem At.src {w : World} {a : Option Addr} {n : Nat} {F : Nat → Value} (h : At w a n F) (hn : n ≤ 1024) (h1 : ∀ j, (F j).oneCell' = true) : Src w a n ((List.range n).map F) := by
  obtain ⟨b, o, ha, hc⟩ := h
  refine src_of hn ?_ ha hc h1
  intro h0
  rcases Nat.eq_zero_or_pos n with h | h
  · exact h
  · rw [ha h] at h0; cases h0

theorem Cop.at {w w' : World} {a a' : Option Addr} {g n : Nat} {F : Nat → Value} {e : TypeId} (h : Cop w w' a a' g n ((List.range n).map F) e) : At w' a' n F :=
  ⟨g, 0, h.spot, fun j hj => by rw [Nat.zero_add]; exact h.cells j (F j) (by simp [hj])⟩

theorem equal8p {w : World} {a1 a2 : Option Addr} {n c d : Nat} {f : Nat → Int} (hn : n ≤ 1024) (h1 : At w a1 n (FK f)) (h2 : At w a2 n (FK f)) :
    Calls Yba.prog 8 #[.slice a1 n c, .slice a2 n d] w fun e w' => e = .returned (.bool true) ∧ ∃ q, w' = w.drewN q := by
  obtain ⟨b1, o1, p1, c1⟩ := h1
  obtain ⟨b2, o2, p2, c2⟩ := h2
  exact equal8 a1 a2 b1 o1 n c b2 o2 d f w hn p1 p2 c1 c2
theorem equal9p {w : World} {a1 a2 : Option Addr} {n c d : Nat} {f : Nat → ByteArray} (hn : n ≤ 1024) (h1 : At w a1 n (FV f)) (h2 : At w a2 n (FV f)) :
    Calls Yba.prog 9 #[.slice a1 n c, .slice a2 n d] w fun e w' => e = .returned (.bool true) ∧ ∃ q, w' = w.drewN q := by
  obtain ⟨b1, o1, p1, c1⟩ := h1
  obtain ⟨b2, o2, p2, c2⟩ := h2
  exact equal9 a1 a2 b1 o1 n c b2 o2 d f w hn p1 p2 c1 c2
theorem equal10p {w : World} {a1 a2 : Option Addr} {n c d : Nat} {f : Nat → Nat} (hn : n ≤ 1024) (h1 : At w a1 n (FC f)) (h2 : At w a2 n (FC f)) :
    Calls Yba.prog 10 #[.slice a1 n c, .slice a2 n d] w fun e w' => e = .returned (.bool true) ∧ ∃ q, w' = w.drewN q := by
  obtain ⟨b1, o1, p1, c1⟩ := h1
  obtain ⟨b2, o2, p2, c2⟩ := h2
  exact equal10 a1 a2 b1 o1 n c b2 o2 d f w hn p1 p2 c1 c2

/-- The six slices that the law holds against each other. -/
structure Six (w : World) (kk vv ak av ac ad : Option Addr) (nk nv nc : Nat) (fk : Nat → Int) (fv : Nat → ByteArray) (fc : Nat → Nat) : Prop where
  kk : At w kk nk (FK fk)
  vv : At w vv nv (FV fv)
  ak : At w ak nk (FK fk)
  av : At w av nv (FV fv)
  ac : At w ac nc (FC fc)
  ad : At w ad nc (FC fc)

theorem Six.below {w w' : World} {kk vv ak av ac ad : Option Addr} {nk nv nc : Nat} {fk : Nat → Int} {fv : Nat → ByteArray} {fc : Nat → Nat} (h : Six w kk vv ak av ac ad nk nv nc fk fv fc) (hb : Below w.heap.size w w') : Six w' kk vv ak av ac ad nk nv nc fk fv fc :=
  ⟨h.kk.below hb, h.vv.below hb, h.ak.below hb, h.av.below hb, h.ac.below hb, h.ad.below hb⟩

theorem Cop.set {w w1 : World} {a a' : Option Addr} {g n : Nat} {F : Nat → Value} {e e' : TypeId} {p : Addr} {cur' : Array Value} {fr : Nat × Nat} (h : Cop w w1 a a' g n ((List.range n).map F) e) (hw : w.heap.size ≤ p.block)
    (hp : w1.heap[p.block]? = some (.cells cur' e' fr)) (hne : e' ≠ e) (u : Value) : Cop w (w1.setCell p u) a a' g n ((List.range n).map F) e := by
  have hd : 0 < n → g ≠ p.block := fun h0 hgp => by
    obtain ⟨cur, hh, _⟩ := h.open_ h0
    rw [hgp, hp] at hh
    have := Option.some.inj hh
    simp only [Obj.cells.injEq] at this
    exact hne this.2.1
  refine ⟨h.isn, h.spot, h.ge, fun h0 => ?_, fun j v hj => ?_, fun h0 => ?_, h.below.setCell hw u⟩
  · simpa [World.setCell] using h.lt h0
  · have h0 : 0 < n := by
      rcases Nat.eq_zero_or_pos n with h | h
      · subst h; simp at hj
      · exact h
    have hc := h.cells j v hj
    rw [← hc]
    exact World.cell?_of_block (Below.heap_setCell w1 p u g (hd h0))
  · obtain ⟨cur, hh, hs⟩ := h.open_ h0
    exact ⟨cur, by rw [Below.heap_setCell w1 p u g (hd h0)]; exact hh, hs⟩

theorem Node.set {w : World} {N : Nat} {ak av ac : Option Addr} {nk ck nv cv nc cc A : Nat} {p : Addr} (h : Node w N ak av ac nk ck nv cv nc cc A) (hne : N ≠ p.block) (u : Value) : Node (w.setCell p u) N ak av ac nk ck nv cv nc cc A := by
  rw [Node, Below.heap_setCell w p u N hne]; exact h

theorem Cop.drewN {w w1 : World} {a a' : Option Addr} {g n : Nat} {xs : List Value} {e : TypeId} (h : Cop w w1 a a' g n xs e) (q : Nat) : Cop w (w1.drewN q) a a' g n xs e :=
  h.later (below_drewN (Below.refl _ _) q)
theorem Node.drewN {w : World} {N : Nat} {ak av ac : Option Addr} {nk ck nv cv nc cc A : Nat} (h : Node w N ak av ac nk ck nv cv nc cc A) (q : Nat) : Node (w.drewN q) N ak av ac nk ck nv cv nc cc A :=
  h.below (below_drewN (Below.refl _ _) q)

/-- What a store into the copy's own row needs. -/
theorem Cop.first {w w1 : World} {a a' : Option Addr} {g n : Nat} {F : Nat → Value} {e : TypeId} (h : Cop w w1 a a' g n ((List.range n).map F) e) (h0 : 0 < n) :
    a' = some ⟨g, 0, none⟩ ∧ w1.cell? ⟨g, 0, none⟩ = some (F 0) ∧ w1.frozen? ⟨g, 0, none⟩ = false ∧ w.heap.size ≤ g ∧ g < w1.heap.size ∧ ∃ cur, w1.heap[g]? = some (.cells cur e (0, 0)) := by
  obtain ⟨cur, hh, _⟩ := h.open_ h0
  exact ⟨h.spot h0, h.cells 0 (F 0) (by simp [h0]), frozen_of_row w1 g 0 cur e hh, h.ge h0, h.lt h0, cur, hh⟩

theorem node_ne {w : World} {N g : Nat} {ak av ac : Option Addr} {nk ck nv cv nc cc A : Nat} {cur : Array Value} {e : TypeId} (h : Node w N ak av ac nk ck nv cv nc cc A) (hg : w.heap[g]? = some (.cells cur e (0, 0))) (he : e ≠ 32) : N ≠ g := by
  intro hh
  subst hh
  rw [Node] at h
  rw [h] at hg
  have := Option.some.inj hg
  simp only [Obj.cells.injEq] at this
  exact he this.2.1.symm

theorem Node.setO {w : World} {N : Nat} {ak av ac : Option Addr} {nk ck nv cv nc cc A : Nat} (h : Node w N ak av ac nk ck nv cv nc cc A) (O : Nat) : Node (w.setCell ⟨N, 3, none⟩ (.pointer (some ⟨O, 0, none⟩))) N ak av ac nk ck nv cv nc cc O := by
  have := heap_setCell_same w N 3 _ 32 (.pointer (some ⟨O, 0, none⟩)) h
  simpa [Node] using this

set_option maxRecDepth 100000 in
set_option maxHeartbeats 400000 in
theorem leaf_is (B n c : Nat) (a : Option Addr) (w : World) (h : w.cell? ⟨B, 2, none⟩ = some (.slice a n c)) :
    Calls Yba.prog 11 #[.pointer (some ⟨B, 0, none⟩)] w fun e w' => e = .returned (.bool a.isNone) ∧ w' = w := by
  have s29 := q29
  go_enter Yba.func11, Yba.ntmps11
  go_wp2
  go_ret
  exact ⟨rfl, rfl⟩

/-- What stands behind the first, the second and the third change of the copy. -/
def T2 (w5 wx : World) (R O : Nat) (ak2 av av2 ac ac2 : Option Addr) (nk ck2 gv nv cv2 gc nc cc2 : Nat) (fv : Nat → ByteArray) (fc : Nat → Nat) : Prop :=
  Node wx R ak2 av2 ac2 nk ck2 nv cv2 nc cc2 O ∧ Cop w5 wx av av2 gv nv ((List.range nv).map (FV fv)) 9 ∧ Cop w5 wx ac ac2 gc nc ((List.range nc).map (FC fc)) 30
def T3 (w5 wx : World) (R O : Nat) (ak2 av2 ac ac2 : Option Addr) (nk ck2 nv cv2 gc nc cc2 : Nat) (fc : Nat → Nat) : Prop :=
  Node wx R ak2 av2 ac2 nk ck2 nv cv2 nc cc2 O ∧ Cop w5 wx ac ac2 gc nc ((List.range nc).map (FC fc)) 30

theorem below_T2 {w5 wx : World} {R O : Nat} {ak2 av av2 ac ac2 : Option Addr} {nk ck2 gv nv cv2 gc nc cc2 : Nat} {fv : Nat → ByteArray} {fc : Nat → Nat} (h : T2 w5 wx R O ak2 av av2 ac ac2 nk ck2 gv nv cv2 gc nc cc2 fv fc) (q : Nat) : T2 w5 (wx.drewN q) R O ak2 av av2 ac ac2 nk ck2 gv nv cv2 gc nc cc2 fv fc :=
  ⟨h.1.drewN q, h.2.1.drewN q, h.2.2.drewN q⟩
theorem below_T3 {w5 wx : World} {R O : Nat} {ak2 av2 ac ac2 : Option Addr} {nk ck2 nv cv2 gc nc cc2 : Nat} {fc : Nat → Nat} (h : T3 w5 wx R O ak2 av2 ac ac2 nk ck2 nv cv2 gc nc cc2 fc) (q : Nat) : T3 w5 (wx.drewN q) R O ak2 av2 ac ac2 nk ck2 nv cv2 gc nc cc2 fc :=
  ⟨h.1.drewN q, h.2.drewN q⟩

theorem wrap_ne (x : Int) : decide (x = IntKind.i64.wrap (x + 1)) = false := by
  rw [decide_eq_false_iff_not, IntKind.wrap_i64]
  omega

theorem wrap64_ne (x : Int) : decide (x = wrap64 (x + 1)) = false := by
  rw [decide_eq_false_iff_not]
  unfold wrap64
  omega

theorem str_ne (s : ByteArray) : s ≠ s ++ ⟨#[120]⟩ := by
  intro h
  have := congrArg ByteArray.size h
  simp [ByteArray.size_append] at this
  exact absurd this (by decide)

theorem str_list_ne (s : ByteArray) : (s.toList == (s ++ ⟨#[120]⟩).toList) = false := by
  apply beq_eq_false_iff_ne.2
  intro h
  have := congrArg List.length h
  simp [ByteArray.toList_eq] at this

end Go.Proofs.Ybulkbdlk
