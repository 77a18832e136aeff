import Derived.Test.YbulkbdjgDoorParts
import Derived.Test.YbulkbdjgDoorPlain
import Derived.Deep.RegionLaw
namespace Go.Proofs.YbulkbdjgDoor
open Go.RowKit

/-- The cells of a list of cuts. -/
def cutCells : List (Int × Int) → List Value
  | [] => []
  | c :: r => .int .i64 c.1 :: .int .i64 c.2 :: cutCells r
theorem cutCells_length : ∀ cs : List (Int × Int), (cutCells cs).length = cs.length * 2
  | [] => rfl
  | c :: r => by simp [cutCells, cutCells_length r]; omega
theorem cutCells_append : ∀ a b : List (Int × Int), cutCells (a ++ b) = cutCells a ++ cutCells b
  | [], b => rfl
  | c :: r, b => by simp [cutCells, cutCells_append r b]
theorem cutCells_fst : ∀ (cs : List (Int × Int)) (i : Nat), (cutCells cs)[i * 2]? = cs[i]?.map (fun c => Value.int .i64 c.1)
  | [], i => by simp [cutCells]
  | c :: r, 0 => by simp [cutCells]
  | c :: r, i + 1 => by
    rw [show (i + 1) * 2 = i * 2 + 1 + 1 by omega]
    simp [cutCells, cutCells_fst r i]
theorem cutCells_snd : ∀ (cs : List (Int × Int)) (i : Nat), (cutCells cs)[i * 2 + 1]? = cs[i]?.map (fun c => Value.int .i64 c.2)
  | [], i => by simp [cutCells]
  | c :: r, 0 => by simp [cutCells]
  | c :: r, i + 1 => by
    rw [show (i + 1) * 2 + 1 = i * 2 + 1 + 1 + 1 by omega]
    simp [cutCells, cutCells_snd r i]
theorem cutCells_set : ∀ (cs : List (Int × Int)) (i : Nat) (a b : Int), ((cutCells cs).set (i * 2) (.int .i64 a)).set (i * 2 + 1) (.int .i64 b) = cutCells (cs.set i (a, b))
  | [], i, a, b => by simp [cutCells]
  | c :: r, 0, a, b => by simp [cutCells]
  | c :: r, i + 1, a, b => by
    rw [show (i + 1) * 2 + 1 = i * 2 + 1 + 1 + 1 by omega, show (i + 1) * 2 = i * 2 + 1 + 1 by omega]
    simp [cutCells, cutCells_set r i a b]

theorem cell_two (w : World) (x y : Value) (t : TypeId) : ∀ j u, [x, y][j]? = some u → (w.alloc (.cells #[x, y] t)).cell? ((⟨w.heap.size, 0, none⟩ : Addr).add j) = some u := by
  intro j u hj
  match j, hj with
  | 0, hj => simp at hj; subst hj; simp [Addr.add]
  | 1, hj => simp at hj; subst hj; simp [Addr.add]
  | (j + 2), hj => simp at hj
theorem two_cell_int (k : IntKind) (a b : Int) : ∀ u ∈ [Value.int k a, Value.int k b], u.oneCell' = true := by
  intro u hu; simp at hu; rcases hu with rfl | rfl <;> rfl

/-- The slice 'cuts' in block g, its length and room, beside what was gathered. -/
structure Cuts (B : Nat) (w wr : World) (es : List (Int × Int)) (g n : Nat) (cs : List (Int × Int)) : Prop where
  gath : Gath B w wr es
  own : wr.ownsRow (B + 3) 44 2 (.slice (some ⟨g, 0, none⟩) cs.length n) cs.length (cutCells cs)

variable {B : Nat} {w wr : World} {es cs : List (Int × Int)} {g n : Nat}

theorem Cuts.glt (h : Cuts B w wr es g n cs) : B + 3 ≤ g ∧ g < wr.heap.size := h.own.lt g rfl
theorem Cuts.grown (h : Cuts B w wr es g n cs) {w' : World} {row : Option Nat} (hg : wr.grownBy w' row) (h1 : row ≠ some g) (h3 : ∀ k, row = some k → B + 3 ≤ k) : Cuts B w w' es g n cs where
  gath := h.gath.grown hg (fun e => by have := h3 _ e; omega) (fun e => by have := h3 _ e; omega) (fun k e => by have := h3 k e; omega)
  own := h.own.kept hg (.inr (by simpa [Value.ownBlock] using fun e => h1 e.symm))
theorem Cuts.alloc (h : Cuts B w wr es g n cs) (o : Obj) : Cuts B w (wr.alloc o) es g n cs := h.grown (World.grownBy_alloc wr o none) (by simp) (by simp)
theorem Cuts.drewN (h : Cuts B w wr es g n cs) (k : Nat) : Cuts B w (wr.drewN k) es g n cs := h.grown (row := none) ⟨rfl, rfl, rfl, Nat.le_refl _, fun _ _ _ => rfl⟩ (by simp) (by simp)
theorem Cuts.fst (h : Cuts B w wr es g n cs) (i : Nat) (hi : i < cs.length) : wr.cell? ⟨g, i * 2, none⟩ = some (.int .i64 cs[i].1) := by
  rw [h.own.cellAt (i * 2) (by omega), cutCells_fst, List.getElem?_eq_getElem hi]; rfl
theorem Cuts.snd (h : Cuts B w wr es g n cs) (i : Nat) (hi : i < cs.length) : wr.cell? ⟨g, i * 2 + 1, none⟩ = some (.int .i64 cs[i].2) := by
  rw [h.own.cellAt (i * 2 + 1) (by omega), cutCells_snd, List.getElem?_eq_getElem hi]; rfl
theorem Cuts.free (h : Cuts B w wr es g n cs) (j : Nat) : wr.frozen? ⟨g, j, none⟩ = false := h.own.frozenAt j
theorem Cuts.le (h : Cuts B w wr es g n cs) : cs.length ≤ n := by
  rcases h.own.2 with ⟨h', _⟩ | ⟨g', cap', cur, h', _, _, hn, _⟩
  · simp at h'
  · simp only [Value.slice.injEq, Option.some.injEq, Addr.mk.injEq, and_true, true_and] at h'
    omega
/-- An append has been made. -/
theorem Cuts.pushed (h : Cuts B w wr es g n cs) {o : Obj} {w1 : World} {a b : Int} (h1 : w1.ownsRow (B + 3) 44 2 (.slice (some ⟨g, 0, none⟩) (cs.length + 1) n) (cs.length + 1) (cutCells cs ++ [.int .i64 a, .int .i64 b])) (g1 : (wr.alloc o).grownBy w1 (some g)) :
    Cuts B w w1 es g n (cs ++ [(a, b)]) where
  gath := (h.gath.alloc o).grown g1 (by have := h.glt; simp; omega) (by have := h.glt; simp; omega) (by have := h.glt; simp; omega)
  own := by rw [cutCells_append]; simpa [cutCells] using h1
/-- A slot has been stored into. -/
theorem Cuts.stored (h : Cuts B w wr es g n cs) (i : Nat) (a b : Int) : Cuts B w ((wr.setCell ⟨g, i * 2, none⟩ (.int .i64 a)).setCell ⟨g, i * 2 + 1, none⟩ (.int .i64 b)) es g n (cs.set i (a, b)) := by
  obtain ⟨o1, g1⟩ := h.own.stored (i * 2) (.int .i64 a)
  obtain ⟨o2, g2⟩ := o1.stored (i * 2 + 1) (.int .i64 b)
  have hh := h.glt
  have gath1 := h.gath.grown g1 (by simp; omega) (by simp; omega) (by simp; omega)
  refine ⟨gath1.grown g2 (by simp; omega) (by simp; omega) (by simp; omega), ?_⟩
  rw [cutCells_set] at o2
  simpa using o2
theorem Cuts.lane (h : Cuts B w wr es g n cs) (i : Nat) (hi : i < es.length) : wr.cell? ⟨B + 1, i, none⟩ = some (.int .i64 es[i].1) := by
  rw [h.gath.oL.cellAt i (by omega)]; simp [hi]
theorem Cuts.ns (h : Cuts B w wr es g n cs) (i : Nat) (hi : i < es.length) : wr.cell? ⟨B + 1 + 1, i, none⟩ = some (.int .i64 es[i].2) := by
  rw [h.gath.oN.cellAt i (by omega)]; simp [hi]
theorem Cuts.drew (h : Cuts B w wr es g n cs) : Cuts B w wr.drew es g n cs := h.grown (row := none) ⟨rfl, rfl, rfl, Nat.le_refl _, fun _ _ _ => rfl⟩ (by simp) (by simp)
theorem Gath.lane (h : Gath B w wr es) (i : Nat) (hi : i < es.length) : wr.cell? ⟨B + 1, i, none⟩ = some (.int .i64 es[i].1) := by
  rw [h.oL.cellAt i (by omega)]; simp [hi]
theorem Gath.ns (h : Gath B w wr es) (i : Nat) (hi : i < es.length) : wr.cell? ⟨B + 1 + 1, i, none⟩ = some (.int .i64 es[i].2) := by
  rw [h.oN.cellAt i (by omega)]; simp [hi]
theorem cuts_start {w1 : World} (h : Gath B w wr es) (hg : wr.grownBy w1 none) (ho : w1.ownsRow (B + 3) 44 2 (.slice (some ⟨g, 0, none⟩) 0 n) 0 []) : Cuts B w w1 es g n [] :=
  ⟨h.grown hg (by simp) (by simp) (by simp), ho⟩

/-- append within the room, as one step of a region that draws. -/
theorem step_append_fits {P : Program} {ops : Array Oper} {o : Oper} {a : Act} {w : World} {K : Act → World → Prop} {Q : Exit → Act → World → Prop} {E : Prop}
    (hg : o.guard = none) (s x : Operand) (t : TypeId) (hop : o.op = Op.call { callee := Callee.builtin Builtin.append, args := #[s, x], argTypes := #[t, t] })
    (base : Nat) (e : TypeId) (i : TypeInfo) (size : Nat) (h1 : P.underlying t = some (.slice e)) (h2 : P.info? e = some i) (h4 : i.size = size)
    (g k cap : Nat) (xs : List Value) (hs : a.eval s = .slice (some ⟨g, 0, none⟩) k cap) (hown : w.ownsRow base e size (.slice (some ⟨g, 0, none⟩) k cap) k xs) (ad : Addr) (m c : Nat) (news : List Value) (hx : a.eval x = .slice (some ad) m c) (hn : news.length = m * size)
    (hc : ∀ j u, news[j]? = some u → w.cell? (ad.add j) = some u) (h1c : ∀ u ∈ news, u.oneCell' = true) (b1 : k + m ≤ cap)
    (hK : ∀ w', w'.ownsRow base e size (.slice (some ⟨g, 0, none⟩) (k + m) cap) (k + m) (xs ++ news) → w.grownBy w' (some g) → K (a.put o.dst (.slice (some ⟨g, 0, none⟩) (k + m) cap)) w') :
    if Region.wanted o (yielded ops a.tmps) = true then Oper.wp P o a w K Q else E := by
  have hw : Region.wanted o (yielded ops a.tmps) = true := by simp [Region.wanted, hg]
  rw [if_pos hw]
  obtain ⟨w', hrun, r1, r2⟩ := run_append_fits (P := P) w base t o.type e i size h1 h2 h4 g k cap xs hown ad m c news hn hc h1c b1
  unfold Oper.wp
  simp [execOp, hop, resolve, invoke, builtin, hs, hx, hrun, Result.andThen]
  exact hK w' r1 r2
/-- A struct built of a few fields, by what the tables say of it. -/
theorem wpList_built2 {P : Program} {ops : Array Oper} {rest : List Oper} {o : Oper} {a : Act} {w : World} {Q : Exit → Act → World → Prop} (hg : o.guard = none) (t : TypeId) (i j : Nat) (x y : Operand) (ho : o.op = .build t #[(i, x), (j, y)])
    (vx vy : Value) (hx : a.eval x = vx) (hy : a.eval y = vy) (cells : Array Value) (hc : P.built t [(i, vx), (j, vy)] = some cells)
    (h : wpList P ops Q rest (a.put o.dst (.agg cells)) w) : wpList P ops Q (o :: rest) a w := by
  have hv : (#[(i, x), (j, y)].map fun (i, x) => (i, a.eval x)).toList = [(i, vx), (j, vy)] := by simp [hx, hy]
  exact wpList_build hg t _ ho (by rw [hv, hc]; rfl) (by rw [hv, hc]; exact h)
theorem site_built (a b : Addr) (l c l' c' : Nat) : ∃ sc : Array Value, Ybad.prog.built 87 [(1, .slice (some a) l c), (9, .slice (some b) l' c')] = some sc ∧ sc[1]? = some (.slice (some a) l c) ∧ sc[10]? = some (.slice (some b) l' c') :=
  ⟨(Ybad.prog.built 87 [(1, .slice (some a) l c), (9, .slice (some b) l' c')]).getD #[], by kernel_rfl, by kernel_rfl, by kernel_rfl⟩

/-- What lies in 'cuts' and in the table's box when the site is made. -/
def Ready (es cs : List (Int × Int)) (p sl : Nat) (dn : Bool) : Prop :=
  (es = [] ∧ sl = 0) ∨
  (∃ pad T : List (Int × Int), cs = pad ++ T ∧ pad.length = p ∧ T.length = sl ∧ 1 ≤ sl ∧
    ((sl ≤ 8 ∧ PlainB.Tab (fun j => T.getD j (-1, 0)) sl es) ∨
     (9 ≤ sl ∧ sl ≤ 64 ∧ dn = true ∧ ∃ lo : Int, 0 ≤ lo ∧ lo < 64 ∧ PlainB.DenseT lo T es ∧ (T.getD 0 (-1, 0)).1 = lo) ∨
     (sl = 64 ∧ dn = false ∧ PlainB.Hashed (fun l => (hsh l).toNat) (fun j => T.getD j (-1, 0)) es ∧ 0 < PlainB.empties T)))

/-- The box of the table 't' in block t. -/
structure TBox (B g : Nat) (wr : World) (t p sl : Nat) (dn : Bool) : Prop where
  c0 : wr.cell? ⟨t, 0, none⟩ = some (.int .i64 p)
  c1 : wr.cell? ⟨t, 1, none⟩ = some (.int .i64 sl)
  c2 : wr.cell? ⟨t, 2, none⟩ = some (.bool dn)
  free : ∀ j, wr.frozen? ⟨t, j, none⟩ = false
  lt : t < wr.heap.size
  ge : B + 3 ≤ t
  far : t ≠ g
theorem TBox.grown {t p sl : Nat} {dn : Bool} (h : TBox B g wr t p sl dn) {w' : World} {row : Option Nat} (hg : wr.grownBy w' row) (h1 : row ≠ some t) : TBox B g w' t p sl dn where
  c0 := (hg.cell_far ⟨t, 0, none⟩ h.lt (fun e => h1 e.symm)).trans h.c0
  c1 := (hg.cell_far ⟨t, 1, none⟩ h.lt (fun e => h1 e.symm)).trans h.c1
  c2 := (hg.cell_far ⟨t, 2, none⟩ h.lt (fun e => h1 e.symm)).trans h.c2
  free j := (hg.frozen_far ⟨t, j, none⟩ h.lt (fun e => h1 e.symm)).trans (h.free j)
  lt := Nat.lt_of_lt_of_le h.lt hg.size
  ge := h.ge
  far := h.far
theorem TBox.alloc {t p sl : Nat} {dn : Bool} (h : TBox B g wr t p sl dn) (o : Obj) : TBox B g (wr.alloc o) t p sl dn := h.grown (World.grownBy_alloc wr o none) (by simp)
theorem TBox.drew {t p sl : Nat} {dn : Bool} (h : TBox B g wr t p sl dn) : TBox B g wr.drew t p sl dn := h.grown (row := none) ⟨rfl, rfl, rfl, Nat.le_refl _, fun _ _ _ => rfl⟩ (by simp)
theorem TBox.drewN {t p sl : Nat} {dn : Bool} (h : TBox B g wr t p sl dn) (k : Nat) : TBox B g (wr.drewN k) t p sl dn := h.grown (row := none) ⟨rfl, rfl, rfl, Nat.le_refl _, fun _ _ _ => rfl⟩ (by simp)
/-- The three cells have been stored. -/
theorem TBox.stored {t p sl p' sl' : Nat} {dn dn' : Bool} (h : TBox B g wr t p sl dn) :
    TBox B g (((wr.setCell ⟨t, 0, none⟩ (.int .i64 p')).setCell ⟨t, 1, none⟩ (.int .i64 sl')).setCell ⟨t, 2, none⟩ (.bool dn')) t p' sl' dn' where
  c0 := by rw [World.cell?_setCell_other _ _ _ _ (by simp), World.cell?_setCell_other _ _ _ _ (by simp), World.cell?_setCell_same _ _ _ h.c0]
  c1 := by
    rw [World.cell?_setCell_other _ _ _ _ (by simp)]
    exact World.cell?_setCell_same _ _ _ ((World.cell?_setCell_other _ _ _ _ (by simp)).trans h.c1)
  c2 := by
    exact World.cell?_setCell_same _ _ _ ((World.cell?_setCell_other _ _ _ _ (by simp)).trans ((World.cell?_setCell_other _ _ _ _ (by simp)).trans h.c2))
  free j := by simp [h.free j]
  lt := by simpa using h.lt
  ge := h.ge
  far := h.far
theorem TBox.setG {t p sl : Nat} {dn : Bool} (h : TBox B g wr t p sl dn) (j : Nat) (v : Value) : TBox B g (wr.setCell ⟨g, j, none⟩ v) t p sl dn :=
  h.grown (row := some g) ⟨rfl, rfl, rfl, by simp, fun k _ hk => heap_setCell_other wr ⟨g, j, none⟩ k v (fun e => hk (by simp [e]))⟩ (by simpa using fun e => h.far e.symm)
theorem hash_put {h0 m d : Nat} {T : List (Int × Int)} {ei : Int × Int} (hh0 : hsh ei.1 = h0) (hm : (h0 + d) % 64 = m) (H : PlainB.Hashed (fun l => (hsh l).toNat) (fun j => T.getD j (-1, 0)) es) (hT : T.length = 64) (hd : d < 64) (he : 0 ≤ ei.1)
    (hem : (T.getD m (-1, 0)).1 = -1) (hbe : ∀ d', d' < d → (T.getD ((h0 + d') % 64) (-1, 0)).1 ≠ -1) (hnn : ∀ x, x ∈ es → 0 ≤ x.1) :
    PlainB.Hashed (fun l => (hsh l).toNat) (fun j => (T.set m ei).getD j (-1, 0)) (es ++ [ei]) := by
  have e0 : (hsh ei.1).toNat = h0 := by omega
  subst hm
  have := PlainB.Hashed.put (e := ei) (d := d) H hT hd (by omega) (by simpa only [e0] using hem) (by simpa only [e0] using hbe) (fun x hx => by have := hnn x hx; omega)
  simpa only [e0] using this
theorem set_pad (cs T : List (Int × Int)) (k m : Nat) (e : Int × Int) (hk : cs.length = k) : (cs ++ T).set (k + m) e = cs ++ T.set m e := by
  rw [List.set_append_right _ _ (by omega), hk, Nat.add_sub_cancel_left]
theorem Cuts.setT {t p sl : Nat} {dn : Bool} (h : Cuts B w wr es g n cs) (ht : TBox B g wr t p sl dn) (j : Nat) (v : Value) : Cuts B w (wr.setCell ⟨t, j, none⟩ v) es g n cs :=
  h.grown (row := some t) ⟨rfl, rfl, rfl, by simp, fun k _ hk => heap_setCell_other wr ⟨t, j, none⟩ k v (fun e => hk (by simp [e]))⟩ (by simpa using ht.far) (by have := ht.ge; simp; omega)
theorem Cuts.setT3 {t p sl : Nat} {dn : Bool} (h : Cuts B w wr es g n cs) (ht : TBox B g wr t p sl dn) (v0 v1 v2 : Value) : Cuts B w (((wr.setCell ⟨t, 0, none⟩ v0).setCell ⟨t, 1, none⟩ v1).setCell ⟨t, 2, none⟩ v2) es g n cs := by
  have f : ∀ {w1 : World} (_ : Cuts B w w1 es g n cs) (j : Nat) (v : Value), Cuts B w (w1.setCell ⟨t, j, none⟩ v) es g n cs := fun {w1} hc j v =>
    hc.grown (row := some t) ⟨rfl, rfl, rfl, by simp, fun k _ hk => heap_setCell_other w1 ⟨t, j, none⟩ k v (fun e => hk (by simp [e]))⟩ (by simpa using ht.far) (by have := ht.ge; simp; omega)
  exact f (f (f h 0 v0) 1 v1) 2 v2

theorem Cuts.tabFst (h : Cuts B w wr es g n cs) {pad T : List (Int × Int)} (e : cs = pad ++ T) (j : Nat) (hj : j < T.length) : wr.cell? ⟨g, 2 * pad.length + 2 * j, none⟩ = some (.int .i64 (T.getD j (-1, 0)).1) := by
  have hi : pad.length + j < cs.length := by rw [e, List.length_append]; omega
  have := h.fst (pad.length + j) hi
  rw [show (pad.length + j) * 2 = 2 * pad.length + 2 * j by omega] at this
  rw [this]
  subst e
  simp [List.getD, hj]
theorem Cuts.tabSnd (h : Cuts B w wr es g n cs) {pad T : List (Int × Int)} (e : cs = pad ++ T) (j : Nat) (hj : j < T.length) : wr.cell? ⟨g, 2 * pad.length + 2 * j + 1, none⟩ = some (.int .i64 (T.getD j (-1, 0)).2) := by
  have hi : pad.length + j < cs.length := by rw [e, List.length_append]; omega
  have := h.snd (pad.length + j) hi
  rw [show (pad.length + j) * 2 + 1 = 2 * pad.length + 2 * j + 1 by omega] at this
  rw [this]
  subst e
  simp [List.getD, hj]
end Go.Proofs.YbulkbdjgDoor
