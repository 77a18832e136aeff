/- send, walked. -/
import Derived.Test.YbulkbdjuAcc
import Derived.Deep.AppendLies
import Derived.RegionTactic
namespace Go.Proofs.Ybulkbdju
open Go.RowKit

section
variable {P : Program} {ops : Array Oper} {Q : Exit → Act → World → Prop} {md : Region.Mode} {i : Nat} {oi : Oper} {fuel : Nat} {listed : Array Bool} {a : Act} {w : World}
/-- An operation that yields in whatever world is taken first. -/
theorem takeW (d : Option Tmp) (v : Value) (hi : ops[i]? = some oi) (hd : oi.dst = d)
    (hs : Region.noSelect ops = true) (hf : Region.free md ops listed i = true) (hr : (Region.ready md ops listed).contains i = true)
    (hQ : ∀ c a w, Q (.panic c) (a.put d v) w → Q (.panic c) a w) (hw : Region.wanted oi (yielded ops a.tmps) = true) (hy : ∀ w, (execOp a.eval oi).run P w = .ok (.value v) w)
    (h : wpAny P md ops Q fuel (listed.setIfInBounds i true) (a.put d v) w) : wpAny P md ops Q (fuel + 1) listed a w := by
  subst hd
  exact wpAny_take hi hs hf hr hQ (.inl ⟨hw, hy⟩) h
/-- One of those that may come up, carried out: it gives a value. -/
theorem stepV {rs : List Nat} (d : Option Tmp) (v : Value) (w' : World) (hi : ops[i]? = some oi) (hd : oi.dst = d) (hw : Region.wanted oi (yielded ops a.tmps) = true) (hrun : (execOp a.eval oi).run P w = .ok (.value v) w')
    (h : wpAny P md ops Q fuel (listed.setIfInBounds i true) (a.put d v) w') (hs : AllReady P md ops Q fuel listed a w rs) : AllReady P md ops Q fuel listed a w (i :: rs) := by
  subst hd
  refine AllReady.cons hi (fun K hK => ?_) hs
  rw [if_pos hw]
  unfold Oper.wp
  rw [hrun]
  exact hK _ _ h
/-- .. it gives none. -/
theorem stepU {rs : List Nat} (w' : World) (hi : ops[i]? = some oi) (hd : oi.dst = none) (hw : Region.wanted oi (yielded ops a.tmps) = true) (hrun : (execOp a.eval oi).run P w = .ok .skip w')
    (h : wpAny P md ops Q fuel (listed.setIfInBounds i true) (a.put none undef) w') (hs : AllReady P md ops Q fuel listed a w rs) : AllReady P md ops Q fuel listed a w (i :: rs) := by
  refine AllReady.cons hi (fun K hK => ?_) hs
  rw [if_pos hw]
  unfold Oper.wp
  rw [hrun]
  show K (a.put oi.dst undef) w'
  rw [hd]
  exact hK _ _ h
end

theorem op_skip {P : Program} {w w' : World} {s : Sem Unit} (hs : s.run P w = .ok () w') : (do s; pure Next.skip : Sem Next).run P w = .ok .skip w' := by
  simp only [Sem.run_bind, hs, Result.andThen_ok, Sem.run_pure]
theorem fa57_52 (N : Nat) (w : World) : (Instr.fieldAt 57 (.pointer (some ⟨N, 0, none⟩)) 52).run Yba.prog w = .ok (.pointer (some ⟨N, 65, none⟩)) w := by kernel_rfl
theorem fa57_53 (N : Nat) (w : World) : (Instr.fieldAt 57 (.pointer (some ⟨N, 0, none⟩)) 53).run Yba.prog w = .ok (.pointer (some ⟨N, 66, none⟩)) w := by kernel_rfl
theorem bs54 (frm to rd rep s : Int) (sa : Option Addr) (sl sc : Nat) (org : Int) (w : World) :
    (Instr.buildSlice 54 1 #[(0, .agg (msg frm to rd rep s (.slice sa sl sc) org).toArray)]).run Yba.prog w = .ok (.slice (some ⟨w.heap.size, 0, none⟩) 1 1) (w.alloc (.cells (msg frm to rd rep s (.slice sa sl sc) org).toArray 70)) := by kernel_rfl
theorem info_parts {P : Program} {t : TypeId} {z : Value} {a b : Nat} (h : (P.info? t).map (fun i => (i.zero, i.size, i.bytes)) = some (some z, a, b)) : ∃ i, P.info? t = some i ∧ i.zero = some z ∧ i.size = a ∧ i.bytes = b := by
  obtain ⟨i, hi, he⟩ := Option.map_eq_some_iff.1 h
  simp only [Prod.mk.injEq] at he
  exact ⟨i, hi, he.1, he.2.1, he.2.2⟩
theorem Yba.info70 : (Yba.prog.info? 70).map (fun i => (i.zero, i.size, i.bytes)) = some (some (.agg zero70), 20, 224) := by kernel_rfl
theorem msg_all (frm to rd rep s : Int) (sa : Option Addr) (sl sc : Nat) (org : Int) : ∀ u ∈ msg frm to rd rep s (.slice sa sl sc) org, u.oneCell' = true := fun u hu =>
  (Array.all_eq_true_iff_forall_mem.1 (msg_one frm to rd rep s sa sl sc org)) u (by simpa using hu)
theorem store54 {w : World} {N o : Nat} {u v : Value} (h : w.cell? ⟨N, o, none⟩ = some u) (hf : w.frozen? ⟨N, o, none⟩ = false) (hv : v.oneCell' = true) (hc : v.cells = #[v]) : (Instr.storeAt 54 (.pointer (some ⟨N, o, none⟩)) v).run Yba.prog w = .ok () (w.setCell ⟨N, o, none⟩ v) := by
  have hs : (sizeOf 54).run Yba.prog w = .ok 1 w := by kernel_rfl
  have hst := run_store Yba.prog w ⟨N, o, none⟩ v .plain hv
  rw [h] at hst
  simp only [hf] at hst
  simp [Instr.storeAt, Instr.sureAddr, storeVar, hs, hc, storeCells, Addr.add_lit, hst]
/-- append to a slice of the call's own, as one operation. -/
theorem op_append {P : Program} {w w' : World} {a : Act} {o : Oper} (s x : Operand) (t : TypeId) (hop : o.op = Op.call { callee := Callee.builtin Builtin.append, args := #[s, x], argTypes := #[t, t] }) {v v' y : Value} (hs : a.eval s = v) (hx : a.eval x = y)
    (hrun : (Builtin.append_ #[t, t] o.type #[v, y]).run P w = .ok v' w') : (execOp a.eval o).run P w = .ok (.value v') w' := by
  simp [execOp, hop, resolve, invoke, builtin, hs, hx, hrun, Result.andThen]
theorem op_bs {P : Program} {w w' : World} {a : Act} {o : Oper} (t : TypeId) (len : Nat) (parts : Array (Nat × Operand)) (ho : o.op = .buildSlice t len parts) (vals : Array (Nat × Value)) (hv : (parts.map fun (i, x) => (i, a.eval x)) = vals) {v : Value} (hrun : (Instr.buildSlice t len vals).run P w = .ok v w') :
    (execOp a.eval o).run P w = .ok (.value v) w' := by
  subst hv
  unfold execOp
  simp only [ho, Sem.run_bind, hrun, Result.andThen_ok, Sem.run_pure]
theorem node_set {w : World} {N M : Nat} {self b nx rd rep : Int} {vi vo : Value} {nc : Array Value} (hb : w.heap[N]? = some (.cells nc 57 (0, 0))) (n1 : nc[1]? = some (.int .i64 self)) (n12 : nc[12]? = some (.map (some M))) (n21 : nc[21]? = some (.int .u64 b)) (n53 : nc[53]? = some (.int .u64 nx))
    (n46 : nc[46]? = some (.int .u64 rd)) (n47 : nc[47]? = some (.int .i64 rep)) (n65 : nc[65]? = some vi) (n66 : nc[66]? = some vo) (v : Value) :
    NodeIs (w.setCell ⟨N, 65, none⟩ v) N M self b nx rd rep v vo ∧ NodeIs (w.setCell ⟨N, 66, none⟩ v) N M self b nx rd rep vi v := by
  have h66 : 66 < nc.size := (Array.getElem?_eq_some_iff.1 n66).1
  refine ⟨⟨_, heap_setCell_same w N 65 nc 57 v hb, ?_⟩, ⟨_, heap_setCell_same w N 66 nc 57 v hb, ?_⟩⟩
  · simp [n1, n12, n21, n53, n46, n47, n66, show 65 < nc.size by omega]
  · simp [n1, n12, n21, n53, n46, n47, n65, h66]
theorem own_slice {w : World} {base : Nat} {e : TypeId} {size : Nat} {v : Value} {n : Nat} {xs : List Value} (h : w.ownsRow base e size v n xs) (hn : 0 < n) : ∃ g cap, v = .slice (some ⟨g, 0, none⟩) n cap := by
  rcases h.2 with ⟨_, h0⟩ | ⟨g, cap, cur, rfl, _⟩
  · omega
  · exact ⟨g, cap, rfl⟩
theorem rangeAt_block {w : World} {g : Nat} {cs : List Value} {t : TypeId} (h : w.heap[g]? = some (.cells cs.toArray t (0, 0))) : w.rangeAt g 0 cs := fun j v hj => by
  rw [cell_blk h]; simpa using hj
theorem ownsRow_set {w : World} {base N o : Nat} {e : TypeId} {size : Nat} {v : Value} {n : Nat} {xs : List Value} (h : w.ownsRow base e size v n xs) (hN : N < base) (u : Value) : (w.setCell ⟨N, o, none⟩ u).ownsRow base e size v n xs := by
  refine ⟨h.1, h.2.imp id ?_⟩
  rintro ⟨g, cap, cur, h1, h2, h3, h4⟩
  exact ⟨g, cap, cur, h1, h2, (heap_setCell_other w ⟨N, o, none⟩ g u (by show g ≠ N; omega)).trans h3, h4⟩
theorem ownsRow_keep {w w' : World} {base : Nat} {e : TypeId} {size : Nat} {v : Value} {n : Nat} {xs : List Value} (h : w.ownsRow base e size v n xs) (hb : ∀ g, v.ownBlock = some g → w'.heap[g]? = w.heap[g]?) : w'.ownsRow base e size v n xs := by
  refine ⟨h.1, h.2.imp id ?_⟩
  rintro ⟨g, cap, cur, rfl, h2, h3, h4⟩
  exact ⟨g, cap, cur, rfl, h2, (hb g rfl).trans h3, h4⟩

/-- What a send does: one message more in the box; nothing else has turned but the node's own block and the box's row. -/
structure Sent (base : Nat) (w w' : World) (N : Nat) (v v' : Value) (k : Nat) (xs news : List Value) : Prop where
  own : w'.ownsRow base 70 20 v' (k + 1) (xs ++ news)
  os : w'.os = w.os
  tape : w'.tape = w.tape
  output : w'.output = w.output
  size : w.heap.size ≤ w'.heap.size
  block : ∀ j, j < w.heap.size → j ≠ N → some j ≠ v.ownBlock → w'.heap[j]? = w.heap[j]?

def SentInOut (base N M : Nat) (self b nx rd rep : Int) (vi vo : Value) (k : Nat) (xs news : List Value) (w : World) (e : Ending) (w' : World) : Prop :=
  e = .returned (.tuple #[]) ∧ ∃ v', NodeIs w' N M self b nx rd rep v' vo ∧ Sent base w w' N vi v' k xs news
set_option maxRecDepth 100000 in
set_option maxHeartbeats 400000 in
theorem send_in (base N M : Nat) (self b nx rd rep s to : Int) (vi vo : Value) (org : Int) (sa : Option Addr) (sl sc k : Nat) (xs : List Value) (w : World) (hto : to = self) (hN : NodeIs w N M self b nx rd rep vi vo) (hown : w.ownsRow base 70 20 vi k xs) (hk : k ≤ 2000) (hbase : base ≤ w.heap.size) (hNb : N < base) :
    Calls Yba.prog 6 #[.pointer (some ⟨N, 0, none⟩), .agg (msg 0 to rd rep s (.slice sa sl sc) org).toArray] w fun e w' => SentInOut base N M self b nx rd rep vi vo k xs (msg self to rd rep s (.slice sa sl sc) org) w e w' := by
  obtain ⟨nc, hb, n1, n12, n21, n53, n46, n47, n65, n66⟩ := hN
  have c1 := (cell_blk hb 1).trans n1
  have hNl := lt_blk hb
  have m1 : (msg 0 to rd rep s (.slice sa sl sc) org)[1]? = some (.int .i64 0) := rfl
  have ms : (msg 0 to rd rep s (.slice sa sl sc) org).set 1 (.int .i64 self) = msg self to rd rep s (.slice sa sl sc) org := rfl
  have eq1 : (to == self) = true := by simp [hto]
  replace hb := hide hb
  replace hown := hide hown
  replace n1 := hide n1
  replace n12 := hide n12
  replace n21 := hide n21
  replace n53 := hide n53
  replace n46 := hide n46
  replace n47 := hide n47
  replace n65 := hide n65
  replace n66 := hide n66
  replace hto := hide hto
  go_enter Yba.func6, Yba.ntmps6
  go_wp2

  clear ms m1
  obtain ⟨w1, hw1⟩ : ∃ w1, w1 = w.alloc (.cells (msg self to rd rep s (.slice sa sl sc) org).toArray 70) := ⟨_, rfl⟩
  rw [← hw1]
  have hB : Hid (w1.heap[w.heap.size]? = some (.cells (msg self to rd rep s (.slice sa sl sc) org).toArray 70 (0, 0))) := by show _ = _; rw [hw1]; exact heap_alloc_new w _
  have hbel : Hid (Below w.heap.size w w1) := by show Below _ _ _; rw [hw1]; exact (Below.refl _ w).alloc (Nat.le_refl _) _
  have hsz : w1.heap.size = w.heap.size + 1 := by rw [hw1]; simp
  clear hw1
  have c1' : w1.cell? ⟨N, 1, none⟩ = some (.int .i64 self) := (hbel.out.cell (p := ⟨N, 1, none⟩) (by exact hNl)).trans c1
  have c2' : w1.cell? ⟨w.heap.size, 2, none⟩ = some (.int .i64 to) := cell_blk hB.out 2
  clear c1
  go_quiet (fail)
  go_wp2
  refine wp_region_any (by kernel_rfl) ?_
  change wpAny _ _ _ _ _ _ _ (World.drew _)
  obtain ⟨w2, hw2⟩ : ∃ w2, w2 = (w1.drewN nq).drew := ⟨_, rfl⟩
  rw [← hw2]
  have hh2 : w2.heap = w1.heap := by rw [hw2]; rfl
  have hbel2 : Below w.heap.size w w2 := by rw [hw2]; exact (below_drewN hbel.out _).drew
  clear hw2
  have hsz2 : w2.heap.size = w.heap.size + 1 := by rw [hh2]; exact hsz
  have hB2 : w2.heap[w.heap.size]? = some (.cells (msg self to rd rep s (.slice sa sl sc) org).toArray 70 (0, 0)) := by rw [hh2]; exact hB.out
  have hN2 : w2.heap[N]? = some (.cells nc 57 (0, 0)) := by rw [hbel2.block N hNl]; exact hb.out
  have l4 : w2.cell? ⟨N, 65, none⟩ = some vi := (cell_blk hN2 65).trans n65.out
  have l5 : w2.rangeAt w.heap.size 0 (msg self to rd rep s (.slice sa sl sc) org) := rangeAt_block hB2
  obtain ⟨w3, hw3⟩ : ∃ w3, w3 = w2.alloc (.cells (msg self to rd rep s (.slice sa sl sc) org).toArray 70) := ⟨_, rfl⟩
  have hbel3 : Below w.heap.size w w3 := by rw [hw3]; exact hbel2.alloc (by omega) _
  have hsz3 : w3.heap.size = w.heap.size + 2 := by rw [hw3]; simp [hsz2]
  have hN3 : w3.heap[N]? = some (.cells nc 57 (0, 0)) := by rw [hbel3.block N hNl]; exact hb.out
  have l4' : w3.cell? ⟨N, 65, none⟩ = some vi := (cell_blk hN3 65).trans n65.out
  have hS3 : w3.heap[w2.heap.size]? = some (.cells (msg self to rd rep s (.slice sa sl sc) org).toArray 70 (0, 0)) := by rw [hw3]; exact heap_alloc_new w2 _
  have bs := bs54 self to rd rep s sa sl sc org w2
  rw [← hw3] at bs
  have hown3 : w3.ownsRow base 70 20 vi k xs := ownsRow_keep hown.out (fun g hg => hbel3.block g (hown.out.lt g hg).2)
  obtain ⟨i70, hi, hz0, hz1, hz2⟩ := info_parts Yba.info70
  obtain ⟨v', wA, hrun, hownA, hgrow, _⟩ := run_append_own (P := Yba.prog) w3 base 54 54 70 i70 _ 20 224 Yba.underlying54 hi hz0 hz1 hz2 rfl (by omega) vi k xs hown3 ⟨w2.heap.size, 0, none⟩ 1 1 (msg self to rd rep s (.slice sa sl sc) org) rfl (fun j u hj => by rw [Addr.add_lit, cell_blk hS3]; simpa using hj) (msg_all _ _ _ _ _ _ _ _ _) (by simp [maxLen]; omega) (by omega) (by omega)
  obtain ⟨g, cap, hv'⟩ := own_slice hownA (by omega)
  have hne : ∀ j, vi.ownBlock = some j → base ≤ j := fun j hj => (hown.out.lt j hj).1
  have hNA : wA.heap[N]? = some (.cells nc 57 (0, 0)) := by rw [hgrow.block N (by omega) (fun h => by have := hne N h.symm; omega)]; exact hN3
  have st := store54 ((cell_blk hNA 65).trans n65.out) (free_blk hNA 65) (v := v') (by rw [hv']; rfl) (by rw [hv']; rfl)
  have fin : SentInOut base N M self b nx rd rep vi vo k xs (msg self to rd rep s (.slice sa sl sc) org) w (.returned (.tuple #[])) (wA.setCell ⟨N, 65, none⟩ v') := by
    have hnd := node_set hNA n1.out n12.out n21.out n53.out n46.out n47.out n65.out n66.out v'
    refine ⟨rfl, v', hnd.1, ?_⟩
    have hsub : ∀ j, j < w.heap.size → w3.heap[j]? = w.heap[j]? := fun j hj => hbel3.block j hj
    refine ⟨ownsRow_set hownA hNb _, hgrow.os.trans hbel3.os, hgrow.tape.trans hbel3.tape, hgrow.output.trans hbel3.output, ?_, ?_⟩
    · have := hgrow.size
      show w.heap.size ≤ (wA.setCell ⟨N, 65, none⟩ v').heap.size
      simp
      omega
    · intro j hj hjN hjo
      rw [heap_setCell_other wA ⟨N, 65, none⟩ j v' hjN, hgrow.block j (by omega) hjo]
      exact hsub j hj
  replace fin := hide fin
  refine takeW (i := 0) (some 18) (.pointer (some ⟨N, 0, none⟩)) rfl rfl (by kernel_rfl) (by kernel_rfl) (by kernel_rfl) (fun _ _ _ h => h) (by kernel_rfl) (fun w' => rfl) ?_
  simp only [Act.put, List.setIfInBounds_toArray, List.set_cons_zero, List.set_cons_succ]
  refine takeW (i := 1) (some 19) (.pointer (some ⟨N, 0, none⟩)) rfl rfl (by kernel_rfl) (by kernel_rfl) (by kernel_rfl) (fun _ _ _ h => h) (by kernel_rfl) (fun w' => rfl) ?_
  simp only [Act.put, List.setIfInBounds_toArray, List.set_cons_zero, List.set_cons_succ]
  refine takeW (i := 2) (some 20) (.pointer (some ⟨N, 0, none⟩)) rfl rfl (by kernel_rfl) (by kernel_rfl) (by kernel_rfl) (fun _ _ _ h => h) (by kernel_rfl) (fun w' => rfl) ?_
  simp only [Act.put, List.setIfInBounds_toArray, List.set_cons_zero, List.set_cons_succ]
  refine takeW (i := 3) (some 21) (.pointer (some ⟨N, 65, none⟩)) rfl rfl (by kernel_rfl) (by kernel_rfl) (by kernel_rfl) (fun _ _ _ h => h) (by kernel_rfl) (fun w' => op_value (fa57_52 N w')) ?_
  simp only [Act.put, List.setIfInBounds_toArray, List.set_cons_zero, List.set_cons_succ]
  refine wpAny_ready (rs := [4, 5]) (by kernel_rfl) (by simp) ?_
  refine stepV (i := 4) (some 22) (vi) w2 rfl rfl (by kernel_rfl) (op_value (load_one 54 agg54 l4)) ?_ (stepV (i := 5) (some 23) (.agg (msg self to rd rep s (.slice sa sl sc) org).toArray) w2 rfl rfl (by kernel_rfl) (op_value (run_loadAt_mid w2 w.heap.size 0 70 (msg self to rd rep s (.slice sa sl sc) org) _ l5 Yba.underlying70 rfl (len70 ..))) ?_ (AllReady.nil))
  · simp only [Act.put, List.setIfInBounds_toArray, List.set_cons_zero, List.set_cons_succ]
    refine wpAny_ready (rs := [5]) (by kernel_rfl) (by simp) ?_
    refine stepV (i := 5) (some 23) (.agg (msg self to rd rep s (.slice sa sl sc) org).toArray) w2 rfl rfl (by kernel_rfl) (op_value (run_loadAt_mid w2 w.heap.size 0 70 (msg self to rd rep s (.slice sa sl sc) org) _ l5 Yba.underlying70 rfl (len70 ..))) ?_ (AllReady.nil)
    simp only [Act.put, List.setIfInBounds_toArray, List.set_cons_zero, List.set_cons_succ]
    refine wpAny_ready (rs := [6]) (by kernel_rfl) (by simp) ?_
    refine stepV (i := 6) (some 24) (.slice (some ⟨w2.heap.size, 0, none⟩) 1 1) w3 rfl rfl (by kernel_rfl) (op_bs 54 1 _ rfl _ (by kernel_rfl) bs) ?_ (AllReady.nil)
    simp only [Act.put, List.setIfInBounds_toArray, List.set_cons_zero, List.set_cons_succ]
    refine wpAny_ready (rs := [7]) (by kernel_rfl) (by simp) ?_
    refine stepV (i := 7) (some 25) v' wA rfl rfl (by kernel_rfl) (op_append (.tmp 22) (.tmp 24) 54 rfl rfl rfl hrun) ?_ AllReady.nil
    simp only [Act.put, List.setIfInBounds_toArray, List.set_cons_zero, List.set_cons_succ]
    refine takeW (i := 8) (some 26) (.pointer (some ⟨N, 0, none⟩)) rfl rfl (by kernel_rfl) (by kernel_rfl) (by kernel_rfl) (fun _ _ _ h => h) (by kernel_rfl) (fun w' => rfl) ?_
    simp only [Act.put, List.setIfInBounds_toArray, List.set_cons_zero, List.set_cons_succ]
    refine takeW (i := 9) (some 27) (.pointer (some ⟨N, 65, none⟩)) rfl rfl (by kernel_rfl) (by kernel_rfl) (by kernel_rfl) (fun _ _ _ h => h) (by kernel_rfl) (fun w' => op_value (fa57_52 N w')) ?_
    simp only [Act.put, List.setIfInBounds_toArray, List.set_cons_zero, List.set_cons_succ]
    refine wpAny_ready (rs := [10]) (by kernel_rfl) (by simp) ?_
    refine stepU (i := 10) (wA.setCell ⟨N, 65, none⟩ v') rfl rfl (by kernel_rfl) (op_skip st) ?_ AllReady.nil
    refine wpAny_done (by kernel_rfl) ?_ _
    simp only [Act.put]
    clear st hrun hownA hgrow bs l4 l5 l4' hown3 hS3 hN3 hNA hB2 hN2
    go_wp2
    go_end0
    exact fin.out
  · simp only [Act.put, List.setIfInBounds_toArray, List.set_cons_zero, List.set_cons_succ]
    refine wpAny_ready (rs := [4, 6]) (by kernel_rfl) (by simp) ?_
    refine stepV (i := 4) (some 22) (vi) w2 rfl rfl (by kernel_rfl) (op_value (load_one 54 agg54 l4)) ?_ (stepV (i := 6) (some 24) (.slice (some ⟨w2.heap.size, 0, none⟩) 1 1) w3 rfl rfl (by kernel_rfl) (op_bs 54 1 _ rfl _ (by kernel_rfl) bs) ?_ (AllReady.nil))
    · simp only [Act.put, List.setIfInBounds_toArray, List.set_cons_zero, List.set_cons_succ]
      refine wpAny_ready (rs := [6]) (by kernel_rfl) (by simp) ?_
      refine stepV (i := 6) (some 24) (.slice (some ⟨w2.heap.size, 0, none⟩) 1 1) w3 rfl rfl (by kernel_rfl) (op_bs 54 1 _ rfl _ (by kernel_rfl) bs) ?_ (AllReady.nil)
      simp only [Act.put, List.setIfInBounds_toArray, List.set_cons_zero, List.set_cons_succ]
      refine wpAny_ready (rs := [7]) (by kernel_rfl) (by simp) ?_
      refine stepV (i := 7) (some 25) v' wA rfl rfl (by kernel_rfl) (op_append (.tmp 22) (.tmp 24) 54 rfl rfl rfl hrun) ?_ AllReady.nil
      simp only [Act.put, List.setIfInBounds_toArray, List.set_cons_zero, List.set_cons_succ]
      refine takeW (i := 8) (some 26) (.pointer (some ⟨N, 0, none⟩)) rfl rfl (by kernel_rfl) (by kernel_rfl) (by kernel_rfl) (fun _ _ _ h => h) (by kernel_rfl) (fun w' => rfl) ?_
      simp only [Act.put, List.setIfInBounds_toArray, List.set_cons_zero, List.set_cons_succ]
      refine takeW (i := 9) (some 27) (.pointer (some ⟨N, 65, none⟩)) rfl rfl (by kernel_rfl) (by kernel_rfl) (by kernel_rfl) (fun _ _ _ h => h) (by kernel_rfl) (fun w' => op_value (fa57_52 N w')) ?_
      simp only [Act.put, List.setIfInBounds_toArray, List.set_cons_zero, List.set_cons_succ]
      refine wpAny_ready (rs := [10]) (by kernel_rfl) (by simp) ?_
      refine stepU (i := 10) (wA.setCell ⟨N, 65, none⟩ v') rfl rfl (by kernel_rfl) (op_skip st) ?_ AllReady.nil
      refine wpAny_done (by kernel_rfl) ?_ _
      simp only [Act.put]
      clear st hrun hownA hgrow bs l4 l5 l4' hown3 hS3 hN3 hNA hB2 hN2
      go_wp2
      go_end0
      exact fin.out
    · simp only [Act.put, List.setIfInBounds_toArray, List.set_cons_zero, List.set_cons_succ]
      refine wpAny_ready (rs := [4]) (by kernel_rfl) (by simp) ?_
      refine stepV (i := 4) (some 22) (vi) w3 rfl rfl (by kernel_rfl) (op_value (load_one 54 agg54 l4')) ?_ (AllReady.nil)
      simp only [Act.put, List.setIfInBounds_toArray, List.set_cons_zero, List.set_cons_succ]
      refine wpAny_ready (rs := [7]) (by kernel_rfl) (by simp) ?_
      refine stepV (i := 7) (some 25) v' wA rfl rfl (by kernel_rfl) (op_append (.tmp 22) (.tmp 24) 54 rfl rfl rfl hrun) ?_ AllReady.nil
      simp only [Act.put, List.setIfInBounds_toArray, List.set_cons_zero, List.set_cons_succ]
      refine takeW (i := 8) (some 26) (.pointer (some ⟨N, 0, none⟩)) rfl rfl (by kernel_rfl) (by kernel_rfl) (by kernel_rfl) (fun _ _ _ h => h) (by kernel_rfl) (fun w' => rfl) ?_
      simp only [Act.put, List.setIfInBounds_toArray, List.set_cons_zero, List.set_cons_succ]
      refine takeW (i := 9) (some 27) (.pointer (some ⟨N, 65, none⟩)) rfl rfl (by kernel_rfl) (by kernel_rfl) (by kernel_rfl) (fun _ _ _ h => h) (by kernel_rfl) (fun w' => op_value (fa57_52 N w')) ?_
      simp only [Act.put, List.setIfInBounds_toArray, List.set_cons_zero, List.set_cons_succ]
      refine wpAny_ready (rs := [10]) (by kernel_rfl) (by simp) ?_
      refine stepU (i := 10) (wA.setCell ⟨N, 65, none⟩ v') rfl rfl (by kernel_rfl) (op_skip st) ?_ AllReady.nil
      refine wpAny_done (by kernel_rfl) ?_ _
      simp only [Act.put]
      clear st hrun hownA hgrow bs l4 l5 l4' hown3 hS3 hN3 hNA hB2 hN2
      go_wp2
      go_end0
      exact fin.out

def SentOutOut (base N M : Nat) (self b nx rd rep : Int) (vi vo : Value) (k : Nat) (xs news : List Value) (w : World) (e : Ending) (w' : World) : Prop :=
  e = .returned (.tuple #[]) ∧ ∃ v', NodeIs w' N M self b nx rd rep vi v' ∧ Sent base w w' N vo v' k xs news
set_option maxRecDepth 100000 in
set_option maxHeartbeats 400000 in
theorem send_out (base N M : Nat) (self b nx rd rep s to : Int) (vi vo : Value) (org : Int) (sa : Option Addr) (sl sc k : Nat) (xs : List Value) (w : World) (hto : to ≠ self) (hN : NodeIs w N M self b nx rd rep vi vo) (hown : w.ownsRow base 70 20 vo k xs) (hk : k ≤ 2000) (hbase : base ≤ w.heap.size) (hNb : N < base) :
    Calls Yba.prog 6 #[.pointer (some ⟨N, 0, none⟩), .agg (msg 0 to rd rep s (.slice sa sl sc) org).toArray] w fun e w' => SentOutOut base N M self b nx rd rep vi vo k xs (msg self to rd rep s (.slice sa sl sc) org) w e w' := by
  obtain ⟨nc, hb, n1, n12, n21, n53, n46, n47, n65, n66⟩ := hN
  have c1 := (cell_blk hb 1).trans n1
  have hNl := lt_blk hb
  have m1 : (msg 0 to rd rep s (.slice sa sl sc) org)[1]? = some (.int .i64 0) := rfl
  have ms : (msg 0 to rd rep s (.slice sa sl sc) org).set 1 (.int .i64 self) = msg self to rd rep s (.slice sa sl sc) org := rfl
  have eq1 : (to == self) = false := by simpa using hto
  replace hb := hide hb
  replace hown := hide hown
  replace n1 := hide n1
  replace n12 := hide n12
  replace n21 := hide n21
  replace n53 := hide n53
  replace n46 := hide n46
  replace n47 := hide n47
  replace n65 := hide n65
  replace n66 := hide n66
  replace hto := hide hto
  go_enter Yba.func6, Yba.ntmps6
  go_wp2

  clear ms m1
  obtain ⟨w1, hw1⟩ : ∃ w1, w1 = w.alloc (.cells (msg self to rd rep s (.slice sa sl sc) org).toArray 70) := ⟨_, rfl⟩
  rw [← hw1]
  have hB : Hid (w1.heap[w.heap.size]? = some (.cells (msg self to rd rep s (.slice sa sl sc) org).toArray 70 (0, 0))) := by show _ = _; rw [hw1]; exact heap_alloc_new w _
  have hbel : Hid (Below w.heap.size w w1) := by show Below _ _ _; rw [hw1]; exact (Below.refl _ w).alloc (Nat.le_refl _) _
  have hsz : w1.heap.size = w.heap.size + 1 := by rw [hw1]; simp
  clear hw1
  have c1' : w1.cell? ⟨N, 1, none⟩ = some (.int .i64 self) := (hbel.out.cell (p := ⟨N, 1, none⟩) (by exact hNl)).trans c1
  have c2' : w1.cell? ⟨w.heap.size, 2, none⟩ = some (.int .i64 to) := cell_blk hB.out 2
  clear c1
  go_quiet (fail)
  go_wp2
  refine wp_region_any (by kernel_rfl) ?_
  change wpAny _ _ _ _ _ _ _ (World.drew _)
  obtain ⟨w2, hw2⟩ : ∃ w2, w2 = (w1.drewN nq).drew := ⟨_, rfl⟩
  rw [← hw2]
  have hh2 : w2.heap = w1.heap := by rw [hw2]; rfl
  have hbel2 : Below w.heap.size w w2 := by rw [hw2]; exact (below_drewN hbel.out _).drew
  clear hw2
  have hsz2 : w2.heap.size = w.heap.size + 1 := by rw [hh2]; exact hsz
  have hB2 : w2.heap[w.heap.size]? = some (.cells (msg self to rd rep s (.slice sa sl sc) org).toArray 70 (0, 0)) := by rw [hh2]; exact hB.out
  have hN2 : w2.heap[N]? = some (.cells nc 57 (0, 0)) := by rw [hbel2.block N hNl]; exact hb.out
  have l4 : w2.cell? ⟨N, 66, none⟩ = some vo := (cell_blk hN2 66).trans n66.out
  have l5 : w2.rangeAt w.heap.size 0 (msg self to rd rep s (.slice sa sl sc) org) := rangeAt_block hB2
  obtain ⟨w3, hw3⟩ : ∃ w3, w3 = w2.alloc (.cells (msg self to rd rep s (.slice sa sl sc) org).toArray 70) := ⟨_, rfl⟩
  have hbel3 : Below w.heap.size w w3 := by rw [hw3]; exact hbel2.alloc (by omega) _
  have hsz3 : w3.heap.size = w.heap.size + 2 := by rw [hw3]; simp [hsz2]
  have hN3 : w3.heap[N]? = some (.cells nc 57 (0, 0)) := by rw [hbel3.block N hNl]; exact hb.out
  have l4' : w3.cell? ⟨N, 66, none⟩ = some vo := (cell_blk hN3 66).trans n66.out
  have hS3 : w3.heap[w2.heap.size]? = some (.cells (msg self to rd rep s (.slice sa sl sc) org).toArray 70 (0, 0)) := by rw [hw3]; exact heap_alloc_new w2 _
  have bs := bs54 self to rd rep s sa sl sc org w2
  rw [← hw3] at bs
  have hown3 : w3.ownsRow base 70 20 vo k xs := ownsRow_keep hown.out (fun g hg => hbel3.block g (hown.out.lt g hg).2)
  obtain ⟨i70, hi, hz0, hz1, hz2⟩ := info_parts Yba.info70
  obtain ⟨v', wA, hrun, hownA, hgrow, _⟩ := run_append_own (P := Yba.prog) w3 base 54 54 70 i70 _ 20 224 Yba.underlying54 hi hz0 hz1 hz2 rfl (by omega) vo k xs hown3 ⟨w2.heap.size, 0, none⟩ 1 1 (msg self to rd rep s (.slice sa sl sc) org) rfl (fun j u hj => by rw [Addr.add_lit, cell_blk hS3]; simpa using hj) (msg_all _ _ _ _ _ _ _ _ _) (by simp [maxLen]; omega) (by omega) (by omega)
  obtain ⟨g, cap, hv'⟩ := own_slice hownA (by omega)
  have hne : ∀ j, vo.ownBlock = some j → base ≤ j := fun j hj => (hown.out.lt j hj).1
  have hNA : wA.heap[N]? = some (.cells nc 57 (0, 0)) := by rw [hgrow.block N (by omega) (fun h => by have := hne N h.symm; omega)]; exact hN3
  have st := store54 ((cell_blk hNA 66).trans n66.out) (free_blk hNA 66) (v := v') (by rw [hv']; rfl) (by rw [hv']; rfl)
  have fin : SentOutOut base N M self b nx rd rep vi vo k xs (msg self to rd rep s (.slice sa sl sc) org) w (.returned (.tuple #[])) (wA.setCell ⟨N, 66, none⟩ v') := by
    have hnd := node_set hNA n1.out n12.out n21.out n53.out n46.out n47.out n65.out n66.out v'
    refine ⟨rfl, v', hnd.2, ?_⟩
    have hsub : ∀ j, j < w.heap.size → w3.heap[j]? = w.heap[j]? := fun j hj => hbel3.block j hj
    refine ⟨ownsRow_set hownA hNb _, hgrow.os.trans hbel3.os, hgrow.tape.trans hbel3.tape, hgrow.output.trans hbel3.output, ?_, ?_⟩
    · have := hgrow.size
      show w.heap.size ≤ (wA.setCell ⟨N, 66, none⟩ v').heap.size
      simp
      omega
    · intro j hj hjN hjo
      rw [heap_setCell_other wA ⟨N, 66, none⟩ j v' hjN, hgrow.block j (by omega) hjo]
      exact hsub j hj
  replace fin := hide fin
  refine takeW (i := 0) (some 28) (.pointer (some ⟨N, 0, none⟩)) rfl rfl (by kernel_rfl) (by kernel_rfl) (by kernel_rfl) (fun _ _ _ h => h) (by kernel_rfl) (fun w' => rfl) ?_
  simp only [Act.put, List.setIfInBounds_toArray, List.set_cons_zero, List.set_cons_succ]
  refine takeW (i := 1) (some 29) (.pointer (some ⟨N, 0, none⟩)) rfl rfl (by kernel_rfl) (by kernel_rfl) (by kernel_rfl) (fun _ _ _ h => h) (by kernel_rfl) (fun w' => rfl) ?_
  simp only [Act.put, List.setIfInBounds_toArray, List.set_cons_zero, List.set_cons_succ]
  refine takeW (i := 2) (some 30) (.pointer (some ⟨N, 0, none⟩)) rfl rfl (by kernel_rfl) (by kernel_rfl) (by kernel_rfl) (fun _ _ _ h => h) (by kernel_rfl) (fun w' => rfl) ?_
  simp only [Act.put, List.setIfInBounds_toArray, List.set_cons_zero, List.set_cons_succ]
  refine takeW (i := 3) (some 31) (.pointer (some ⟨N, 66, none⟩)) rfl rfl (by kernel_rfl) (by kernel_rfl) (by kernel_rfl) (fun _ _ _ h => h) (by kernel_rfl) (fun w' => op_value (fa57_53 N w')) ?_
  simp only [Act.put, List.setIfInBounds_toArray, List.set_cons_zero, List.set_cons_succ]
  refine wpAny_ready (rs := [4, 5]) (by kernel_rfl) (by simp) ?_
  refine stepV (i := 4) (some 32) (vo) w2 rfl rfl (by kernel_rfl) (op_value (load_one 54 agg54 l4)) ?_ (stepV (i := 5) (some 33) (.agg (msg self to rd rep s (.slice sa sl sc) org).toArray) w2 rfl rfl (by kernel_rfl) (op_value (run_loadAt_mid w2 w.heap.size 0 70 (msg self to rd rep s (.slice sa sl sc) org) _ l5 Yba.underlying70 rfl (len70 ..))) ?_ (AllReady.nil))
  · simp only [Act.put, List.setIfInBounds_toArray, List.set_cons_zero, List.set_cons_succ]
    refine wpAny_ready (rs := [5]) (by kernel_rfl) (by simp) ?_
    refine stepV (i := 5) (some 33) (.agg (msg self to rd rep s (.slice sa sl sc) org).toArray) w2 rfl rfl (by kernel_rfl) (op_value (run_loadAt_mid w2 w.heap.size 0 70 (msg self to rd rep s (.slice sa sl sc) org) _ l5 Yba.underlying70 rfl (len70 ..))) ?_ (AllReady.nil)
    simp only [Act.put, List.setIfInBounds_toArray, List.set_cons_zero, List.set_cons_succ]
    refine wpAny_ready (rs := [6]) (by kernel_rfl) (by simp) ?_
    refine stepV (i := 6) (some 34) (.slice (some ⟨w2.heap.size, 0, none⟩) 1 1) w3 rfl rfl (by kernel_rfl) (op_bs 54 1 _ rfl _ (by kernel_rfl) bs) ?_ (AllReady.nil)
    simp only [Act.put, List.setIfInBounds_toArray, List.set_cons_zero, List.set_cons_succ]
    refine wpAny_ready (rs := [7]) (by kernel_rfl) (by simp) ?_
    refine stepV (i := 7) (some 35) v' wA rfl rfl (by kernel_rfl) (op_append (.tmp 32) (.tmp 34) 54 rfl rfl rfl hrun) ?_ AllReady.nil
    simp only [Act.put, List.setIfInBounds_toArray, List.set_cons_zero, List.set_cons_succ]
    refine takeW (i := 8) (some 36) (.pointer (some ⟨N, 0, none⟩)) rfl rfl (by kernel_rfl) (by kernel_rfl) (by kernel_rfl) (fun _ _ _ h => h) (by kernel_rfl) (fun w' => rfl) ?_
    simp only [Act.put, List.setIfInBounds_toArray, List.set_cons_zero, List.set_cons_succ]
    refine takeW (i := 9) (some 37) (.pointer (some ⟨N, 66, none⟩)) rfl rfl (by kernel_rfl) (by kernel_rfl) (by kernel_rfl) (fun _ _ _ h => h) (by kernel_rfl) (fun w' => op_value (fa57_53 N w')) ?_
    simp only [Act.put, List.setIfInBounds_toArray, List.set_cons_zero, List.set_cons_succ]
    refine wpAny_ready (rs := [10]) (by kernel_rfl) (by simp) ?_
    refine stepU (i := 10) (wA.setCell ⟨N, 66, none⟩ v') rfl rfl (by kernel_rfl) (op_skip st) ?_ AllReady.nil
    refine wpAny_done (by kernel_rfl) ?_ _
    simp only [Act.put]
    clear st hrun hownA hgrow bs l4 l5 l4' hown3 hS3 hN3 hNA hB2 hN2
    go_wp2
    go_end0
    exact fin.out
  · simp only [Act.put, List.setIfInBounds_toArray, List.set_cons_zero, List.set_cons_succ]
    refine wpAny_ready (rs := [4, 6]) (by kernel_rfl) (by simp) ?_
    refine stepV (i := 4) (some 32) (vo) w2 rfl rfl (by kernel_rfl) (op_value (load_one 54 agg54 l4)) ?_ (stepV (i := 6) (some 34) (.slice (some ⟨w2.heap.size, 0, none⟩) 1 1) w3 rfl rfl (by kernel_rfl) (op_bs 54 1 _ rfl _ (by kernel_rfl) bs) ?_ (AllReady.nil))
    · simp only [Act.put, List.setIfInBounds_toArray, List.set_cons_zero, List.set_cons_succ]
      refine wpAny_ready (rs := [6]) (by kernel_rfl) (by simp) ?_
      refine stepV (i := 6) (some 34) (.slice (some ⟨w2.heap.size, 0, none⟩) 1 1) w3 rfl rfl (by kernel_rfl) (op_bs 54 1 _ rfl _ (by kernel_rfl) bs) ?_ (AllReady.nil)
      simp only [Act.put, List.setIfInBounds_toArray, List.set_cons_zero, List.set_cons_succ]
      refine wpAny_ready (rs := [7]) (by kernel_rfl) (by simp) ?_
      refine stepV (i := 7) (some 35) v' wA rfl rfl (by kernel_rfl) (op_append (.tmp 32) (.tmp 34) 54 rfl rfl rfl hrun) ?_ AllReady.nil
      simp only [Act.put, List.setIfInBounds_toArray, List.set_cons_zero, List.set_cons_succ]
      refine takeW (i := 8) (some 36) (.pointer (some ⟨N, 0, none⟩)) rfl rfl (by kernel_rfl) (by kernel_rfl) (by kernel_rfl) (fun _ _ _ h => h) (by kernel_rfl) (fun w' => rfl) ?_
      simp only [Act.put, List.setIfInBounds_toArray, List.set_cons_zero, List.set_cons_succ]
      refine takeW (i := 9) (some 37) (.pointer (some ⟨N, 66, none⟩)) rfl rfl (by kernel_rfl) (by kernel_rfl) (by kernel_rfl) (fun _ _ _ h => h) (by kernel_rfl) (fun w' => op_value (fa57_53 N w')) ?_
      simp only [Act.put, List.setIfInBounds_toArray, List.set_cons_zero, List.set_cons_succ]
      refine wpAny_ready (rs := [10]) (by kernel_rfl) (by simp) ?_
      refine stepU (i := 10) (wA.setCell ⟨N, 66, none⟩ v') rfl rfl (by kernel_rfl) (op_skip st) ?_ AllReady.nil
      refine wpAny_done (by kernel_rfl) ?_ _
      simp only [Act.put]
      clear st hrun hownA hgrow bs l4 l5 l4' hown3 hS3 hN3 hNA hB2 hN2
      go_wp2
      go_end0
      exact fin.out
    · simp only [Act.put, List.setIfInBounds_toArray, List.set_cons_zero, List.set_cons_succ]
      refine wpAny_ready (rs := [4]) (by kernel_rfl) (by simp) ?_
      refine stepV (i := 4) (some 32) (vo) w3 rfl rfl (by kernel_rfl) (op_value (load_one 54 agg54 l4')) ?_ (AllReady.nil)
      simp only [Act.put, List.setIfInBounds_toArray, List.set_cons_zero, List.set_cons_succ]
      refine wpAny_ready (rs := [7]) (by kernel_rfl) (by simp) ?_
      refine stepV (i := 7) (some 35) v' wA rfl rfl (by kernel_rfl) (op_append (.tmp 32) (.tmp 34) 54 rfl rfl rfl hrun) ?_ AllReady.nil
      simp only [Act.put, List.setIfInBounds_toArray, List.set_cons_zero, List.set_cons_succ]
      refine takeW (i := 8) (some 36) (.pointer (some ⟨N, 0, none⟩)) rfl rfl (by kernel_rfl) (by kernel_rfl) (by kernel_rfl) (fun _ _ _ h => h) (by kernel_rfl) (fun w' => rfl) ?_
      simp only [Act.put, List.setIfInBounds_toArray, List.set_cons_zero, List.set_cons_succ]
      refine takeW (i := 9) (some 37) (.pointer (some ⟨N, 66, none⟩)) rfl rfl (by kernel_rfl) (by kernel_rfl) (by kernel_rfl) (fun _ _ _ h => h) (by kernel_rfl) (fun w' => op_value (fa57_53 N w')) ?_
      simp only [Act.put, List.setIfInBounds_toArray, List.set_cons_zero, List.set_cons_succ]
      refine wpAny_ready (rs := [10]) (by kernel_rfl) (by simp) ?_
      refine stepU (i := 10) (wA.setCell ⟨N, 66, none⟩ v') rfl rfl (by kernel_rfl) (op_skip st) ?_ AllReady.nil
      refine wpAny_done (by kernel_rfl) ?_ _
      simp only [Act.put]
      clear st hrun hownA hgrow bs l4 l5 l4' hown3 hS3 hN3 hNA hB2 hN2
      go_wp2
      go_end0
      exact fin.out
end Go.Proofs.Ybulkbdju
