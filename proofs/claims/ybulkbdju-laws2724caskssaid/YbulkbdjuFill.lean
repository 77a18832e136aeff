/- What LawS2724CAsks leans on: the plain lists, the node as it is made, the log as it is filled, bytes.Equal. -/
import Derived.Test.YbulkbdjuAsk
import Derived.Laws.BytesArg
namespace Go.Proofs.Ybulkbdju
open Go.RowKit

theorem outp_len (self r rd rep b : Int) (f : Nat → Slt) : ∀ i, (outp self r rd rep b f i).length = cnt r f i * 20
  | 0 => rfl
  | i + 1 => by
    have ih := outp_len self r rd rep b f i
    simp only [outp, cnt, List.length_append, ih]
    split
    · have : (msg self r rd rep (b + 1 + i) (.slice (f i).sa (f i).sl (f i).sc) (f i).org).length = 20 := rfl
      omega
    · simp
theorem cnt_mono (r : Int) (f : Nat → Slt) {i : Nat} : ∀ n, i ≤ n → cnt r f i ≤ cnt r f n
  | 0, h => by have : i = 0 := by omega
               subst this; exact Nat.le_refl _
  | n + 1, h => by
    by_cases e : i = n + 1
    · subst e; exact Nat.le_refl _
    · have := cnt_mono r f (i := i) n (by omega)
      simp only [cnt]
      omega
theorem cnt_lt (r : Int) (f : Nat → Slt) {i n : Nat} (h : i < n) (ha : askd r (f i) = true) : cnt r f i < cnt r f n := by
  have := cnt_mono r f n (show i + 1 ≤ n by omega)
  simp only [cnt, ha] at this
  simp at this
  omega
theorem outp_pre (self r rd rep b : Int) (f : Nat → Slt) {i : Nat} : ∀ n, i ≤ n → ∀ (t : Nat) (v : Value), (outp self r rd rep b f i)[t]? = some v → (outp self r rd rep b f n)[t]? = some v
  | 0, h, t, v, hv => by have : i = 0 := by omega
                         subst this; exact hv
  | n + 1, h, t, v, hv => by
    by_cases e : i = n + 1
    · subst e; exact hv
    · have ih := outp_pre self r rd rep b f n (by omega) t v hv
      have hlt := (List.getElem?_eq_some_iff.1 ih).1
      simp only [outp]
      rw [List.getElem?_append_left hlt]
      exact ih
theorem outp_at (self r rd rep b : Int) (f : Nat → Slt) {i n : Nat} (h : i < n) (ha : askd r (f i) = true) (t : Nat) (v : Value) (hv : (msg self r rd rep (b + 1 + i) (.slice (f i).sa (f i).sl (f i).sc) (f i).org)[t]? = some v) :
    (outp self r rd rep b f n)[cnt r f i * 20 + t]? = some v := by
  refine outp_pre self r rd rep b f n (show i + 1 ≤ n by omega) _ v ?_
  have hl := outp_len self r rd rep b f i
  simp only [outp, ha, if_true]
  rw [List.getElem?_append_right (by omega), hl, Nat.add_sub_cancel_left]
  exact hv

theorem wpList_val {P : Program} {ops : Array Oper} {rest : List Oper} {o : Oper} {a : Act} {w w' : World} {Q : Exit → Act → World → Prop} (hg : o.guard = none) (d : Option Tmp) (hd : o.dst = d) {v : Value} (hrun : (execOp a.eval o).run P w = .ok (.value v) w')
    (h : wpList P ops Q rest (a.put d v) w') : wpList P ops Q (o :: rest) a w := by
  subst hd
  refine wpList_plain hg fun K hK => ?_
  unfold Oper.wp
  rw [hrun]
  exact hK _ _ h
theorem node_made (M : Nat) (b nx rd rep self : Int) : ((Yba.prog.built 28 [(0, .int .i64 64), (1, .int .i64 self)]).bind fun cfg => (Yba.prog.built 57 [(0, .agg cfg), (4, .map (some M)), (12, .int .u64 b), (40, .int .u64 nx), (34, .agg #[.int .u64 rd, .int .i64 rep])]).map fun nc =>
    (nc[1]?, nc[12]?, nc[21]?, nc[53]?, nc[46]?, nc[47]?, nc[65]?, nc[66]?)) = some (some (.int .i64 self), some (.map (some M)), some (.int .u64 b), some (.int .u64 nx), some (.int .u64 rd), some (.int .i64 rep), some (.slice none 0 0), some (.slice none 0 0)) := by kernel_rfl
/-- The cells of the node as the law makes it. -/
def Cells57 (nc : Array Value) (M : Nat) (self b nx rd rep : Int) : Prop :=
  nc[1]? = some (.int .i64 self) ∧ nc[12]? = some (.map (some M)) ∧ nc[21]? = some (.int .u64 b) ∧ nc[53]? = some (.int .u64 nx) ∧ nc[46]? = some (.int .u64 rd) ∧ nc[47]? = some (.int .i64 rep) ∧ nc[65]? = some (.slice none 0 0) ∧ nc[66]? = some (.slice none 0 0)
theorem node_parts (M : Nat) (b nx rd rep self : Int) : ∃ cfg nc, Yba.prog.built 28 [(0, .int .i64 64), (1, .int .i64 self)] = some cfg ∧ Yba.prog.built 57 [(0, .agg cfg), (4, .map (some M)), (12, .int .u64 b), (40, .int .u64 nx), (34, .agg #[.int .u64 rd, .int .i64 rep])] = some nc ∧
    Cells57 nc M self b nx rd rep := by
  obtain ⟨cfg, h1, h2⟩ := Option.bind_eq_some_iff.1 (node_made M b nx rd rep self)
  obtain ⟨nc, h3, h4⟩ := Option.map_eq_some_iff.1 h2
  simp only [Prod.mk.injEq] at h4
  exact ⟨cfg, nc, h1, h3, h4⟩
theorem mk29 (w : World) : (Instr.makeMap 29 none).run Yba.prog w = .ok (.map (some w.heap.size)) (w.alloc (.map #[] 0)) := by kernel_rfl

/-- The log's entries of the first i slots. -/
def ents (b : Int) (H : Nat) : Nat → List (Int × Value)
  | 0 => []
  | i + 1 => ents b H i ++ [(b + 1 + i, .pointer (some ⟨H + i, 0, none⟩))]
theorem ents_key (b : Int) (H : Nat) : ∀ i x, x ∈ ents b H i → b < x.1 ∧ x.1 < b + 1 + i
  | 0, x, h => by cases h
  | i + 1, x, h => by
    rcases List.mem_append.1 h with h | h
    · have := ents_key b H i x h; omega
    · simp at h; subst h; simp; omega
theorem ents_mem (b : Int) (H : Nat) {j : Nat} : ∀ i, j < i → (b + 1 + (j : Int), Value.pointer (some ⟨H + j, 0, none⟩)) ∈ ents b H i
  | 0, h => by omega
  | i + 1, h => by
    by_cases e : j = i
    · subst e; exact List.mem_append.2 (.inr (by simp))
    · exact List.mem_append.2 (.inl (ents_mem b H i (by omega)))
theorem ents_apart (b : Int) (H : Nat) : ∀ i, (ents b H i).Pairwise (fun x y => x.1 ≠ y.1)
  | 0 => List.Pairwise.nil
  | i + 1 => by
    refine List.pairwise_append.2 ⟨ents_apart b H i, by simp, ?_⟩
    intro x hx y hy
    have := ents_key b H i x hx
    simp at hy; subst hy
    simp only
    omega

theorem idx23 (bs os n c i : Nat) (hi : i < n) (w : World) : (Instr.indexAt 23 (.slice (some ⟨bs, os, none⟩) n c) (.int .i64 i)).run Yba.prog w = .ok (.pointer (some ⟨bs, os + i * 4, none⟩)) w := by
  simp [Instr.indexAt, go_sem]
  omega
theorem fa64_0 (b o : Nat) (w : World) : (Instr.fieldAt 64 (.pointer (some ⟨b, o, none⟩)) 0).run Yba.prog w = .ok (.pointer (some ⟨b, o, none⟩)) w := by kernel_rfl
theorem fa64_1 (b o : Nat) (w : World) : (Instr.fieldAt 64 (.pointer (some ⟨b, o, none⟩)) 1).run Yba.prog w = .ok (.pointer (some ⟨b, o + 1, none⟩)) w := by kernel_rfl
theorem fa64_2 (b o : Nat) (w : World) : (Instr.fieldAt 64 (.pointer (some ⟨b, o, none⟩)) 2).run Yba.prog w = .ok (.pointer (some ⟨b, o + 2, none⟩)) w := by kernel_rfl
theorem fa64_3 (b o : Nat) (w : World) : (Instr.fieldAt 64 (.pointer (some ⟨b, o, none⟩)) 3).run Yba.prog w = .ok (.pointer (some ⟨b, o + 3, none⟩)) w := by kernel_rfl
theorem fa57_4 (N : Nat) (w : World) : (Instr.fieldAt 57 (.pointer (some ⟨N, 0, none⟩)) 4).run Yba.prog w = .ok (.pointer (some ⟨N, 12, none⟩)) w := by kernel_rfl
theorem agg4 (w : World) : (isAgg 4).run Yba.prog w = .ok false w := by kernel_rfl
theorem agg29 (w : World) : (isAgg 29).run Yba.prog w = .ok false w := by kernel_rfl
theorem slot_built (ch : Bool) (vt org : Int) (sa : Option Addr) (sl sc : Nat) : Yba.prog.built 62 [(2, .bool ch), (6, .int .u64 vt), (4, .int .i64 org), (1, .slice sa sl sc)] =
    some #[.int .u64 0, .int .i64 0, .slice sa sl sc, .bool ch, .bool false, .int .i64 org, .int .u64 0, .int .i64 0, .int .u64 vt, .slice none 0 0, .int .u64 0, .int .u64 0] := by kernel_rfl
theorem box62 (cs : Array Value) (w : World) : (Instr.box 62 (.agg cs)).run Yba.prog w = .ok (.pointer (some ⟨w.heap.size, 0, none⟩)) (w.alloc (.cells cs 62)) := by kernel_rfl
section
variable {P : Program} {ops : Array Oper} {Q : Exit → Act → World → Prop} {md : Region.Mode} {S : World → Prop} {i : Nat} {oi : Oper} {fuel : Nat} {listed : Array Bool} {a : Act} {w w' : World}
theorem stepVH (d : Option Tmp) {v : Value} (hi : ops[i]? = some oi) (hd : oi.dst = d) (hr : Region.ready md ops listed = [i]) (hw : Region.wanted oi (yielded ops a.tmps) = true) (hrun : (execOp a.eval oi).run P w = .ok (.value v) w') (hS : S w')
    (h : wpAnyH P md ops Q S fuel (listed.setIfInBounds i true) (a.put d v) w') : wpAnyH P md ops Q S (fuel + 1) listed a w := by
  subst hd
  refine wpAnyH_ready hr (by simp) ?_
  refine AllReadyH.cons hi (fun K hK => ?_) AllReadyH.nil
  rw [if_pos hw]
  unfold Oper.wp
  rw [hrun]
  exact hK.out _ _ hS (fun _ => h)
theorem stepUH (hi : ops[i]? = some oi) (hd : oi.dst = none) (hr : Region.ready md ops listed = [i]) (hw : Region.wanted oi (yielded ops a.tmps) = true) (hrun : (execOp a.eval oi).run P w = .ok .skip w') (hS : S w')
    (h : wpAnyH P md ops Q S fuel (listed.setIfInBounds i true) (a.put none undef) w') : wpAnyH P md ops Q S (fuel + 1) listed a w := by
  refine wpAnyH_ready hr (by simp) ?_
  refine AllReadyH.cons hi (fun K hK => ?_) AllReadyH.nil
  rw [if_pos hw]
  unfold Oper.wp
  rw [hrun]
  show K (a.put oi.dst undef) w'
  rw [hd]
  exact hK.out _ _ hS (fun _ => h)
end
/-- What one round of filling reads. -/
def FillS (N M bs o : Nat) (x : Slt) (w : World) : Prop :=
  w.cell? ⟨N, 12, none⟩ = some (.map (some M)) ∧ w.cell? ⟨bs, o, none⟩ = some (.bool x.ch) ∧ w.cell? ⟨bs, o + 1, none⟩ = some (.int .u64 x.vt) ∧ w.cell? ⟨bs, o + 2, none⟩ = some (.int .i64 x.org) ∧ w.cell? ⟨bs, o + 3, none⟩ = some (.slice x.sa x.sl x.sc)
theorem FillS.keep {N M bs o : Nat} {x : Slt} {w w' : World} (h : FillS N M bs o x w) (hN : w'.heap[N]? = w.heap[N]?) (hb : w'.heap[bs]? = w.heap[bs]?) : FillS N M bs o x w' := by
  obtain ⟨h1, h2, h3, h4, h5⟩ := h
  exact ⟨(World.cell?_of_block hN).trans h1, (World.cell?_of_block hb).trans h2, (World.cell?_of_block hb).trans h3, (World.cell?_of_block hb).trans h4, (World.cell?_of_block hb).trans h5⟩

/-- The log while it is filled. -/
structure Fill (w wr : World) (v0 v1 : Value) (n : Nat) (b : Int) (f : Nat → Slt) (nc : Array Value) (i : Nat) : Prop where
  node : wr.heap[w.heap.size + 1]? = some (.cells nc 57 (0, 0))
  map : MapIs wr w.heap.size ((b, v0) :: (b + 1 + n, v1) :: ents b (w.heap.size + 6) i)
  slot : ∀ j, j < i → SlotAt wr (w.heap.size + 6 + j) (f j).ch (f j).vt (f j).org (.slice (f j).sa (f j).sl (f j).sc)
  size : wr.heap.size = w.heap.size + 6 + i
  below : Below w.heap.size w wr

/-- The whole log is what askForVotes asks for. -/
theorem Fill.ready {w wr : World} {v0 v1 : Value} {n : Nat} {b : Int} {f : Nat → Slt} {nc : Array Value} (h : Fill w wr v0 v1 n b f nc n) : Ready wr (w.heap.size + 1) w.heap.size n b f (fun j => w.heap.size + 6 + j) := by
  have hap : ((b, v0) :: (b + 1 + (n : Int), v1) :: ents b (w.heap.size + 6) n).Pairwise (fun x y => x.1 ≠ y.1) := by
    refine List.pairwise_cons.2 ⟨fun y hy => ?_, List.pairwise_cons.2 ⟨fun y hy => ?_, ents_apart _ _ _⟩⟩
    · rcases List.mem_cons.1 hy with rfl | hy
      · simp only; omega
      · have := ents_key _ _ _ y hy; simp only; omega
    · have := ents_key _ _ _ y hy; simp only; omega
  refine ⟨fun i hi w' hw' => ?_, h.slot, fun i hi => (by show w.heap.size + 6 + i ≠ w.heap.size + 1; omega), by omega, by have := h.size; omega⟩
  exact (h.map.same hw').look hap (List.mem_cons_of_mem _ (List.mem_cons_of_mem _ (ents_mem b _ n hi)))

theorem Fill.nodeB {w wr : World} {v0 v1 : Value} {n i : Nat} {b : Int} {f : Nat → Slt} {nc : Array Value} {self rd rep : Int} (h : Fill w wr v0 v1 n b f nc i) (hc : Cells57 nc w.heap.size self b (b + 1 + n) rd rep) (inb : Bool) : NodeB wr (w.heap.size + 1) w.heap.size self b (b + 1 + n) rd rep inb (.slice none 0 0) := by
  obtain ⟨h1, h2, h3, h4, h5, h6, h7, h8⟩ := hc
  refine ⟨nc, h.node, h1, h2, h3, h4, h5, h6, ?_, ?_⟩
  · cases inb <;> exact h7
  · cases inb <;> exact h8

/-- One slot more. -/
theorem Fill.next {w wr wa wb : World} {v0 v1 : Value} {n i : Nat} {b : Int} {f : Nat → Slt} {nc : Array Value} (h : Fill w wr v0 v1 n b f nc i)
    (ha : wa = wr.alloc (.cells #[.int .u64 0, .int .i64 0, .slice (f i).sa (f i).sl (f i).sc, .bool (f i).ch, .bool false, .int .i64 (f i).org, .int .u64 0, .int .i64 0, .int .u64 (f i).vt, .slice none 0 0, .int .u64 0, .int .u64 0] 62))
    (hm : MapIs wb w.heap.size (((b, v0) :: (b + 1 + n, v1) :: ents b (w.heap.size + 6) i) ++ [(b + 1 + i, .pointer (some ⟨w.heap.size + 6 + i, 0, none⟩))]))
    (hg : wa.grownBy wb (some w.heap.size)) (hs : wb.heap.size = wa.heap.size) : Fill w wb v0 v1 n b f nc (i + 1) := by
  have hsa : wa.heap.size = w.heap.size + 6 + i + 1 := by rw [ha]; simp [h.size]
  have hba : Below wr.heap.size wr wa := by rw [ha]; exact (Below.refl _ wr).alloc (Nat.le_refl _) _
  have hkeep : ∀ j, j ≠ w.heap.size → j < wa.heap.size → wb.heap[j]? = wa.heap[j]? := fun j hj hlt => hg.block j hlt (fun e => hj (Option.some.inj e))
  have hz := h.size
  refine ⟨?_, hm, fun j hj => ?_, by omega, ?_⟩
  · rw [hkeep _ (by omega) (by omega), hba.block _ (by omega)]; exact h.node
  · unfold SlotAt
    rw [hkeep _ (by omega) (by omega)]
    by_cases e : j = i
    · subst e
      rw [ha, ← hz]
      exact heap_alloc_new wr _
    · rw [hba.block _ (by omega)]
      exact h.slot j (by omega)
  · refine ⟨hg.os.trans (hba.os.trans h.below.os), hg.tape.trans (hba.tape.trans h.below.tape), hg.output.trans (hba.output.trans h.below.output), by omega, fun k hk => ?_⟩
    rw [hkeep k (by omega) (by omega), hba.block k (by omega)]
    exact h.below.block k hk

set_option maxRecDepth 100000 in
set_option maxHeartbeats 400000 in
theorem equal_same (x : Value) (s : ByteArray) (w : World) (h : (convert 59 9 x).run Yba.prog w = .ok (.string s) w) :
    Calls Yba.prog 5 #[x, x] w fun e w' => e = .returned (.bool true) ∧ w' = w := by
  go_enter Yba.func5, Yba.ntmps5
  go_wp2
  go_ret
  exact ⟨rfl, rfl⟩
end Go.Proofs.Ybulkbdju
