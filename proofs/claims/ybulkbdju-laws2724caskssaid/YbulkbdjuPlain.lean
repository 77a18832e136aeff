/- LawS2724CAsks: what the walk leans on besides. -/
import Derived.Test.YbulkbdjuFill
import Derived.Laws.Bits64b
namespace Go.Proofs.Ybulkbdju
open Go.RowKit

theorem wrapu (x : Int) (h0 : 0 ≤ x) (h1 : x < 18446744073709551616) : IntKind.u64.wrap x = x := by
  simp [IntKind.wrap, IntKind.bits, IntKind.signed]
  omega
theorem Fill.drew {w wr : World} {v0 v1 : Value} {n i : Nat} {b : Int} {f : Nat → Slt} {nc : Array Value} (h : Fill w wr v0 v1 n b f nc i) : Fill w wr.drew v0 v1 n b f nc i := ⟨h.node, h.map.same rfl, h.slot, h.size, h.below.drew⟩
theorem node_cells {w : World} {N M : Nat} {self b nx rd rep : Int} {inb : Bool} {v : Value} (h : NodeB w N M self b nx rd rep inb v) : w.cell? ⟨N, 21, none⟩ = some (.int .u64 b) ∧ w.cell? ⟨N, 53, none⟩ = some (.int .u64 nx) ∧ w.cell? ⟨N, 46, none⟩ = some (.int .u64 rd) ∧ w.cell? ⟨N, 47, none⟩ = some (.int .i64 rep) ∧
    w.cell? ⟨N, 65, none⟩ = some (if inb then v else .slice none 0 0) ∧ w.cell? ⟨N, 66, none⟩ = some (if inb then .slice none 0 0 else v) := by
  obtain ⟨nc, hb, n1, n12, n21, n53, n46, n47, n65, n66⟩ := h
  exact ⟨(cell_blk hb 21).trans n21, (cell_blk hb 53).trans n53, (cell_blk hb 46).trans n46, (cell_blk hb 47).trans n47, (cell_blk hb 65).trans n65, (cell_blk hb 66).trans n66⟩
theorem own_shape {w : World} {base : Nat} {e : TypeId} {size : Nat} {v : Value} {k : Nat} {xs : List Value} (h : w.ownsRow base e size v k xs) :
    ∃ ga g c, v = .slice ga k c ∧ (0 < k → ga = some ⟨g, 0, none⟩) ∧ ∀ t u, xs[t]? = some u → w.cell? ⟨g, t, none⟩ = some u := by
  obtain ⟨hl, ⟨rfl, rfl⟩ | ⟨g, cap, cur, rfl, _, hh, _, _, _, ht⟩⟩ := h
  · refine ⟨none, 0, 0, rfl, by omega, fun t u hu => ?_⟩
    rw [Nat.zero_mul] at hl
    rw [List.length_eq_zero_iff.1 hl] at hu
    cases hu
  · refine ⟨_, g, cap, rfl, fun _ => rfl, fun t u hu => ?_⟩
    rw [cell_blk hh, ← Array.getElem?_toList]
    rw [← ht, List.getElem?_take] at hu
    split at hu
    · exact hu
    · cases hu
theorem and_pow (V R : Nat) : V &&& 2 ^ R = if V.testBit R then 2 ^ R else 0 := by
  apply Nat.eq_of_testBit_eq
  intro i
  rw [Nat.testBit_and, Nat.testBit_two_pow]
  by_cases h : R = i
  · subst h
    cases V.testBit R <;> simp
  · cases V.testBit R <;> simp [h]
theorem ask_small (r vt : Int) (h0 : 0 ≤ r) (h1 : r < 64) (v0 : 0 ≤ vt) (v1 : vt < 18446744073709551616) : (bits BinOp.and IntKind.u64 vt (IntKind.u64.wrap (2 ^ min r.toNat 64)) == 0) = (bits BinOp.and IntKind.u64 (vt / 2 ^ r.toNat) 1 == 0) := by
  obtain ⟨V, rfl⟩ := Int.eq_ofNat_of_zero_le v0
  obtain ⟨R, rfl⟩ := Int.eq_ofNat_of_zero_le h0
  have hR : R < 64 := by omega
  have hp : (2 : Nat) ^ R < 18446744073709551616 := Nat.pow_lt_pow_right (a := 2) (n := 64) (by omega) hR
  have hpe : ((2 : Int) ^ R) = ((2 ^ R : Nat) : Int) := by simp
  rw [Int.toNat_natCast, Nat.min_eq_left (by omega), hpe, wrapu _ (Int.natCast_nonneg _) (Int.ofNat_lt.2 hp)]
  have e1 := bits_and_u64_nat V (2 ^ R) (by omega) (by omega)
  have hd : (V : Int) / ((2 ^ R : Nat) : Int) = ((V / 2 ^ R : Nat) : Int) := by simp
  have hle : V / 2 ^ R ≤ V := Nat.div_le_self _ _
  have e2 := bits_and_u64_nat (V / 2 ^ R) 1 (by omega) (by omega)
  rw [hd, e1]
  have e2' : bits BinOp.and IntKind.u64 ((V / 2 ^ R : Nat) : Int) 1 = (((V / 2 ^ R) &&& 1 : Nat) : Int) := e2
  rw [e2', and_pow, Nat.and_one_is_mod]
  have ht : V.testBit R = decide (V / 2 ^ R % 2 = 1) := Nat.testBit_eq_decide_div_mod_eq
  have hpos : 0 < 2 ^ R := Nat.two_pow_pos R
  rcases Nat.mod_two_eq_zero_or_one (V / 2 ^ R) with h | h
  · rw [ht, h]; simp
  · rw [ht, h]; simp
    intro h2
    rw [hpe] at h2
    have := Int.natCast_eq_zero.1 h2
    omega
theorem ask_big (r vt : Int) (h1 : 64 ≤ r) (v0 : 0 ≤ vt) (v1 : vt < 18446744073709551616) : (bits BinOp.and IntKind.u64 vt (IntKind.u64.wrap (2 ^ min r.toNat 64)) == 0) = true := by
  obtain ⟨V, rfl⟩ := Int.eq_ofNat_of_zero_le v0
  have hm : min r.toNat 64 = 64 := by omega
  have hz : IntKind.u64.wrap (2 ^ 64) = 0 := by decide
  have e1 : bits BinOp.and IntKind.u64 (V : Int) 0 = ((V &&& 0 : Nat) : Int) := bits_and_u64_nat V 0 (by omega) (by omega)
  rw [hm, hz, e1]
  simp
theorem below_setRow {B : Nat} {a w : World} (h : Below B a w) {g : Nat} (hg : B ≤ g) (cs : Array Value) : Below B a (w.setRow g cs) :=
  h.trans ⟨rfl, rfl, rfl, by simp [World.setRow], fun j hj => by
    unfold World.setRow
    rw [Array.getElem?_modify]
    simp [show g ≠ j by omega]⟩
theorem wpList_store70 {ops : Array Oper} {rest : List Oper} {o : Oper} {a : Act} {w : World} {Q : Exit → Act → World → Prop} (hg : o.guard = none) (hd : o.dst = none) (x y : Operand) (ho : o.op = .store 70 x y) (wX : World) (B : Nat) (hB : wX.heap.size = B) (cs : List Value)
    (hx : a.eval x = .pointer (some ⟨B, 0, none⟩)) (hy : a.eval y = .agg cs.toArray) (hw : w = wX.alloc (.cells zero70 70)) (hi : (Yba.prog.info? 70).map (·.size) = some cs.toArray.size) (h20 : cs.length = 20) (h1 : cs.toArray.all (·.oneCell') = true)
    (h : ∀ w', w'.heap[B]? = some (.cells cs.toArray 70 (0, 0)) → Below B wX w' → w'.heap.size = B + 1 → wpList Yba.prog ops Q rest (a.put none undef) w') : wpList Yba.prog ops Q (o :: rest) a w := by
  subst hw hB
  refine wpList_plain hg fun K hK => wp_store_row 70 x y ho wX.heap.size cs.toArray hx hy 70 zero70 (heap_alloc_new wX _) hi (by show (20 : Nat) = cs.toArray.size; rw [List.size_toArray, h20]) h1 ?_
  rw [hd]
  exact hK _ _ (h _ (setRow_heap _ _ _ _ _ _ (heap_alloc_new wX _)) (below_setRow ((Below.refl _ wX).alloc (Nat.le_refl _) _) (Nat.le_refl _) _) (by simp))
theorem msg_cells {w : World} {B : Nat} {frm to rd rep s : Int} {v : Value} {org : Int} (h : w.heap[B]? = some (.cells (msg frm to rd rep s v org).toArray 70 (0, 0))) :
    w.cell? ⟨B, 0, none⟩ = some (.int .u8 3) ∧ w.cell? ⟨B, 1, none⟩ = some (.int .i64 frm) ∧ w.cell? ⟨B, 2, none⟩ = some (.int .i64 to) ∧ w.cell? ⟨B, 3, none⟩ = some (.int .u64 rd) ∧ w.cell? ⟨B, 4, none⟩ = some (.int .i64 rep) ∧ w.cell? ⟨B, 5, none⟩ = some (.int .u64 s) ∧
    w.cell? ⟨B, 6, none⟩ = some v ∧ w.cell? ⟨B, 7, none⟩ = some (.slice none 0 0) ∧ w.cell? ⟨B, 8, none⟩ = some (.pointer none) ∧ w.cell? ⟨B, 9, none⟩ = some (.int .u64 0) ∧ w.cell? ⟨B, 12, none⟩ = some (.int .i64 org) :=
  ⟨cell_blk h 0, cell_blk h 1, cell_blk h 2, cell_blk h 3, cell_blk h 4, cell_blk h 5, cell_blk h 6, cell_blk h 7, cell_blk h 8, cell_blk h 9, cell_blk h 12⟩
/-- The slots as they lie in memory. -/
structure Slots (w : World) (ao : Option Addr) (bs os n : Nat) (f : Nat → Slt) : Prop where
  spot : 0 < n → ao = some ⟨bs, os, none⟩
  c0 : ∀ j, j < n → w.cell? ⟨bs, os + j * 4, none⟩ = some (.bool (f j).ch)
  c1 : ∀ j, j < n → w.cell? ⟨bs, os + j * 4 + 1, none⟩ = some (.int .u64 (f j).vt)
  c2 : ∀ j, j < n → w.cell? ⟨bs, os + j * 4 + 2, none⟩ = some (.int .i64 (f j).org)
  c3 : ∀ j, j < n → w.cell? ⟨bs, os + j * 4 + 3, none⟩ = some (.slice (f j).sa (f j).sl (f j).sc)
  vt : ∀ j, j < n → 0 ≤ (f j).vt ∧ (f j).vt < 18446744073709551616
  bytes : ∀ j, j < n → ∃ s, ∀ w', Below w.heap.size w w' → (convert 59 9 (.slice (f j).sa (f j).sl (f j).sc)).run Yba.prog w' = .ok (.string s) w'
theorem Slots.lt {w : World} {ao : Option Addr} {bs os n : Nat} {f : Nat → Slt} (h : Slots w ao bs os n f) (hn : 0 < n) : bs < w.heap.size := World.block_lt_of_cell? _ _ (h.c0 0 hn)
theorem Slots.four {w wr : World} {ao : Option Addr} {bs os n : Nat} {f : Nat → Slt} (h : Slots w ao bs os n f) (hb : Below w.heap.size w wr) {i : Nat} (hi : i < n) :
    wr.cell? ⟨bs, os + i * 4, none⟩ = some (.bool (f i).ch) ∧ wr.cell? ⟨bs, os + i * 4 + 1, none⟩ = some (.int .u64 (f i).vt) ∧ wr.cell? ⟨bs, os + i * 4 + 2, none⟩ = some (.int .i64 (f i).org) ∧ wr.cell? ⟨bs, os + i * 4 + 3, none⟩ = some (.slice (f i).sa (f i).sl (f i).sc) := by
  have hl := h.lt (by omega)
  exact ⟨(hb.cell (p := ⟨bs, _, none⟩) (by exact hl)).trans (h.c0 i hi), (hb.cell (p := ⟨bs, _, none⟩) (by exact hl)).trans (h.c1 i hi), (hb.cell (p := ⟨bs, _, none⟩) (by exact hl)).trans (h.c2 i hi), (hb.cell (p := ⟨bs, _, none⟩) (by exact hl)).trans (h.c3 i hi)⟩
theorem Slots.fillS {w wr : World} {ao : Option Addr} {bs os n : Nat} {f : Nat → Slt} (h : Slots w ao bs os n f) (hb : Below w.heap.size w wr) {N M i : Nat} (hi : i < n) (hN : wr.cell? ⟨N, 12, none⟩ = some (.map (some M))) : FillS N M bs (os + i * 4) (f i) wr := by
  have hl := h.lt (by omega)
  exact ⟨hN, (hb.cell (p := ⟨bs, _, none⟩) (by exact hl)).trans (h.c0 i hi), (hb.cell (p := ⟨bs, _, none⟩) (by exact hl)).trans (h.c1 i hi), (hb.cell (p := ⟨bs, _, none⟩) (by exact hl)).trans (h.c2 i hi), (hb.cell (p := ⟨bs, _, none⟩) (by exact hl)).trans (h.c3 i hi)⟩

end Go.Proofs.Ybulkbdju
