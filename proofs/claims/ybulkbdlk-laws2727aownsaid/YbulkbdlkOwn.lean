/- (*node).own, walked. -/
import Derived.Test.YbulkbdlkEqual
import Derived.Deep.RegionHeld
namespace Go.Proofs.Ybulkbdlk
open Go.RowKit

/-- What lies in a slice. -/
structure Src (w : World) (a : Option Addr) (n : Nat) (xs : List Value) : Prop where
  len : xs.length = n
  le : n ≤ 1024
  nil : a = none → n = 0
  cells : ∀ ad, a = some ad → ∀ j u, xs[j]? = some u → w.cell? (ad.add j) = some u
  one : ∀ u ∈ xs, u.oneCell' = true

theorem add_block (a : Addr) (j : Nat) : (a.add j).block = a.block := by unfold Addr.add; split <;> rfl

theorem Src.below {w w' : World} {a : Option Addr} {n : Nat} {xs : List Value} (h : Src w a n xs) (hb : Below w.heap.size w w') : Src w' a n xs :=
  ⟨h.len, h.le, h.nil, fun ad ha j u hj => by
    have hc := h.cells ad ha j u hj
    rw [hb.cell (World.block_lt_of_cell? _ _ hc)]; exact hc, h.one⟩

theorem Cop.later {w w1 w2 : World} {a a' : Option Addr} {g n : Nat} {xs : List Value} {e : TypeId} (h : Cop w w1 a a' g n xs e) (hb : Below w1.heap.size w1 w2) : Cop w w2 a a' g n xs e :=
  ⟨h.isn, h.spot, h.ge, fun h0 => Nat.lt_of_lt_of_le (h.lt h0) hb.size, fun j u hj => by
    have hc := h.cells j u hj
    rw [hb.cell (World.block_lt_of_cell? _ _ hc)]; exact hc, fun h0 => by
    obtain ⟨cur, hh, hs⟩ := h.open_ h0
    exact ⟨cur, by rw [hb.block g (h.lt h0)]; exact hh, hs⟩, h.below.trans (hb.mono h.below.size)⟩

theorem Cop.since {w w1 w2 : World} {a a' : Option Addr} {g n : Nat} {xs : List Value} {e : TypeId} (h : Cop w1 w2 a a' g n xs e) (hb : Below w.heap.size w w1) : Cop w w2 a a' g n xs e :=
  ⟨h.isn, h.spot, fun h0 => Nat.le_trans hb.size (h.ge h0), h.lt, h.cells, h.open_, hb.trans (h.below.mono hb.size)⟩

theorem clone4s {a : Option Addr} {n c : Nat} {xs : List Value} {w : World} (h : Src w a n xs) : Calls Yba.prog 4 #[.slice a n c] w fun e w' => ∃ a' g c', e = .returned (.slice a' n c') ∧ Cop w w' a a' g n xs 3 := clone4 a n c xs w h.len h.le h.nil h.cells h.one
theorem clone5s {a : Option Addr} {n c : Nat} {xs : List Value} {w : World} (h : Src w a n xs) : Calls Yba.prog 5 #[.slice a n c] w fun e w' => ∃ a' g c', e = .returned (.slice a' n c') ∧ Cop w w' a a' g n xs 9 := clone5 a n c xs w h.len h.le h.nil h.cells h.one
theorem clone6s {a : Option Addr} {n c : Nat} {xs : List Value} {w : World} (h : Src w a n xs) : Calls Yba.prog 6 #[.slice a n c] w fun e w' => ∃ a' g c', e = .returned (.slice a' n c') ∧ Cop w w' a a' g n xs 30 := clone6 a n c xs w h.len h.le h.nil h.cells h.one

/-- A node's block. -/
def Node (w : World) (N : Nat) (ak av ac : Option Addr) (nk ck nv cv nc cc A : Nat) : Prop :=
  w.heap[N]? = some (.cells #[.slice ak nk ck, .slice av nv cv, .slice ac nc cc, .pointer (some ⟨A, 0, none⟩)] 32 (0, 0))

theorem Node.lt {w : World} {N : Nat} {ak av ac : Option Addr} {nk ck nv cv nc cc A : Nat} (h : Node w N ak av ac nk ck nv cv nc cc A) : N < w.heap.size := by
  rcases Nat.lt_or_ge N w.heap.size with h' | h'
  · exact h'
  · rw [Node, Array.getElem?_eq_none h'] at h; cases h
theorem Node.k {w : World} {N : Nat} {ak av ac : Option Addr} {nk ck nv cv nc cc A : Nat} (h : Node w N ak av ac nk ck nv cv nc cc A) : w.cell? ⟨N, 0, none⟩ = some (.slice ak nk ck) := by rw [cell_of_row w N 0 _ _ _ h]; rfl
theorem Node.v {w : World} {N : Nat} {ak av ac : Option Addr} {nk ck nv cv nc cc A : Nat} (h : Node w N ak av ac nk ck nv cv nc cc A) : w.cell? ⟨N, 1, none⟩ = some (.slice av nv cv) := by rw [cell_of_row w N 1 _ _ _ h]; rfl
theorem Node.c {w : World} {N : Nat} {ak av ac : Option Addr} {nk ck nv cv nc cc A : Nat} (h : Node w N ak av ac nk ck nv cv nc cc A) : w.cell? ⟨N, 2, none⟩ = some (.slice ac nc cc) := by rw [cell_of_row w N 2 _ _ _ h]; rfl
theorem Node.o {w : World} {N : Nat} {ak av ac : Option Addr} {nk ck nv cv nc cc A : Nat} (h : Node w N ak av ac nk ck nv cv nc cc A) : w.cell? ⟨N, 3, none⟩ = some (.pointer (some ⟨A, 0, none⟩)) := by rw [cell_of_row w N 3 _ _ _ h]; rfl
theorem Node.below {w w' : World} {N : Nat} {ak av ac : Option Addr} {nk ck nv cv nc cc A : Nat} (h : Node w N ak av ac nk ck nv cv nc cc A) (hb : Below w.heap.size w w') : Node w' N ak av ac nk ck nv cv nc cc A := by
  rw [Node, hb.block N h.lt]; exact h

/-- The copied node. -/
def Owned (w w' : World) (ak av ac : Option Addr) (nk nv nc : Nat) (xk xv xc : List Value) (O R : Nat) : Prop :=
  ∃ ak' gk ck' av' gv cv' ac' gc cc', Node w' R ak' av' ac' nk ck' nv cv' nc cc' O ∧ Cop w w' ak ak' gk nk xk 3 ∧ Cop w w' av av' gv nv xv 9 ∧ Cop w w' ac ac' gc nc xc 30 ∧ w.heap.size ≤ R

theorem owned_made {w w1 w2 w3 : World} {ak av ac ak' av' ac' : Option Addr} {nk nv nc gk gv gc ck' cv' cc' O : Nat} {xk xv xc : List Value}
    (hk : Cop w.drew w1 ak ak' gk nk xk 3) (hv : Cop w1 w2 av av' gv nv xv 9) (hc : Cop w2 w3 ac ac' gc nc xc 30) :
    Owned w (w3.alloc (.cells #[.slice ak' nk ck', .slice av' nv cv', .slice ac' nc cc', .pointer (some ⟨O, 0, none⟩)] 32)) ak av ac nk nv nc xk xv xc O w3.heap.size := by
  have b0 : Below w.heap.size w w.drew := (Below.refl _ w).drew
  have hk' : Cop w w1 ak ak' gk nk xk 3 := hk.since b0
  have hv' : Cop w w2 av av' gv nv xv 9 := hv.since hk'.below
  have hc' : Cop w w3 ac ac' gc nc xc 30 := hc.since hv'.below
  have b4 : Below w3.heap.size w3 (w3.alloc (.cells #[.slice ak' nk ck', .slice av' nv cv', .slice ac' nc cc', .pointer (some ⟨O, 0, none⟩)] 32)) := (Below.refl _ w3).alloc (Nat.le_refl _) _
  exact ⟨ak', gk, ck', av', gv, cv', ac', gc, cc', heap_alloc_new w3 _, (hk'.later hv.below).later hc.below |>.later b4, (hv'.later hc.below).later b4, hc'.later b4, hc'.below.size⟩

set_option maxRecDepth 100000 in
set_option maxHeartbeats 400000 in
theorem own_same (w : World) (N O : Nat) (hO : w.cell? ⟨N, 3, none⟩ = some (.pointer (some ⟨O, 0, none⟩))) :
    Calls Yba.prog 7 #[.pointer (some ⟨N, 0, none⟩), .pointer (some ⟨O, 0, none⟩)] w fun e w' => e = .returned (.pointer (some ⟨N, 0, none⟩)) ∧ w' = w := by
  have he := eq24
  go_enter Yba.func7, Yba.ntmps7
  go_wp2
  go_ret
  exact ⟨rfl, rfl⟩

set_option maxRecDepth 100000 in
set_option maxHeartbeats 1000000 in
theorem own_copy (w : World) (N A O : Nat) (ak av ac : Option Addr) (nk ck nv cv nc cc : Nat) (xk xv xc : List Value) (cA cO : Array Value) (tA tO : TypeId)
    (hN : Node w N ak av ac nk ck nv cv nc cc A) (hne : A ≠ O) (hA : w.heap[A]? = some (.cells cA tA (0, 0))) (hO : w.heap[O]? = some (.cells cO tO (0, 0)))
    (hk : Src w ak nk xk) (hv : Src w av nv xv) (hc : Src w ac nc xc) :
    Calls Yba.prog 7 #[.pointer (some ⟨N, 0, none⟩), .pointer (some ⟨O, 0, none⟩)] w fun e w' => ∃ R, e = .returned (.pointer (some ⟨R, 0, none⟩)) ∧ Owned w w' ak av ac nk nv nc xk xv xc O R := by
  have he : (binOp .eql 24 (.pointer (some ⟨A, 0, none⟩)) (.pointer (some ⟨O, 0, none⟩))).run Yba.prog w = .ok (.bool false) w := eq24_other w (fun h => hne (Addr.mk.inj h).1) hA hO
  have hNB : Hid (Node w N ak av ac nk ck nv cv nc cc A) := hN
  have n0 := hN.k
  have n1 := hN.v
  have n2 := hN.c
  have n3 := hN.o
  have b0 : Below w.heap.size w w.drew := (Below.refl _ w).drew
  have sk : Hid (Src w ak nk xk) := hk
  have sv : Hid (Src w av nv xv) := hv
  have sc : Hid (Src w ac nc xc) := hc
  clear hk hv hc hN hA hO hne
  go_enter Yba.func7, Yba.ntmps7
  go_wp2_with fail
  go_region_held (fun w' => w'.cell? ⟨N, 0, none⟩ = some (.slice ak nk ck) ∧ w'.cell? ⟨N, 1, none⟩ = some (.slice av nv cv) ∧ w'.cell? ⟨N, 2, none⟩ = some (.slice ac nc cc)) (go_keep) (first
    | (go_at_call 4
       refine (clone4s (sk.out.below b0)).mono ?_
       rintro e w1 ⟨ak', gk, ck', rfl, hk⟩
       have b1 : Below w.heap.size w w1 := b0.trans (hk.below)
       have n01 := (hNB.out.below b1).k
       have n11 := (hNB.out.below b1).v
       have n21 := (hNB.out.below b1).c
       replace hk := hide hk)
    | (go_at_call 5
       refine (clone5s (sv.out.below b1)).mono ?_
       rintro e w2 ⟨av', gv, cv', rfl, hv⟩
       have b2 : Below w.heap.size w w2 := b1.trans (hv.below.mono b1.size)
       have n02 := (hNB.out.below b2).k
       have n12 := (hNB.out.below b2).v
       have n22 := (hNB.out.below b2).c
       replace hv := hide hv)
    | (go_at_call 6
       refine (clone6s (sc.out.below b2)).mono ?_
       rintro e w3 ⟨ac', gc, cc', rfl, hc⟩
       have b3 : Below w.heap.size w w3 := b2.trans (hc.below.mono b2.size)
       have n03 := (hNB.out.below b3).k
       have n13 := (hNB.out.below b3).v
       have n23 := (hNB.out.below b3).c
       have nlt := (hNB.out.below b3).lt
       replace hc := hide hc))
  all_goals
    go_wp2
    go_ret
    exact ⟨_, rfl, owned_made hk.out hv.out hc.out⟩

end Go.Proofs.Ybulkbdlk
