/- acceptMessage, walked by whole operations. -/
import Derived.Test.YbulkbdjuMap
import Derived.BigQuiet
import Derived.Handy
import Derived.Deep.RegionHeld
import Derived.Deep.MidRow
namespace Go.Proofs.Ybulkbdju
open Go.RowKit

/-- The cells of one accept. -/
def msg (frm to rd rep s : Int) (v : Value) (org : Int) : List Value :=
  [.int .u8 3, .int .i64 frm, .int .i64 to, .int .u64 rd, .int .i64 rep, .int .u64 s, v, .slice none 0 0, .pointer none, .int .u64 0, .slice none 0 0, .slice none 0 0, .int .i64 org, .int .u64 0, .int .i64 0, .bool false, .int .i64 0, .int .u64 0, .int .u64 0, .int .i64 0]
theorem msg_built (to rd rep s : Int) (sa : Option Addr) (sl sc : Nat) (org : Int) :
    Yba.prog.built 70 [(0, .int .u8 3), (2, .int .i64 to), (3, .agg #[.int .u64 rd, .int .i64 rep]), (4, .int .u64 s), (5, .slice sa sl sc), (11, .int .i64 org)] = some (msg 0 to rd rep s (.slice sa sl sc) org).toArray := by kernel_rfl
theorem msg_one (frm to rd rep s : Int) (sa : Option Addr) (sl sc : Nat) (org : Int) : (msg frm to rd rep s (.slice sa sl sc) org).toArray.all (·.oneCell') = true := by kernel_rfl
theorem size70 (frm to rd rep s : Int) (v : Value) (org : Int) : (Yba.prog.info? 70).map (·.size) = some (msg frm to rd rep s v org).toArray.size := by kernel_rfl
theorem len70 (frm to rd rep s : Int) (v : Value) (org : Int) : (Yba.prog.info? 70).map (·.size) = some (msg frm to rd rep s v org).length := by kernel_rfl
theorem size31 (a b : Value) : (Yba.prog.info? 31).map (·.size) = some [a, b].length := by kernel_rfl

/-- The node in block N. -/
def NodeIs (w : World) (N M : Nat) (self b nx rd rep : Int) (vi vo : Value) : Prop :=
  ∃ nc : Array Value, w.heap[N]? = some (.cells nc 57 (0, 0)) ∧ nc[1]? = some (.int .i64 self) ∧ nc[12]? = some (.map (some M)) ∧ nc[21]? = some (.int .u64 b) ∧ nc[53]? = some (.int .u64 nx) ∧
    nc[46]? = some (.int .u64 rd) ∧ nc[47]? = some (.int .i64 rep) ∧ nc[65]? = some vi ∧ nc[66]? = some vo
/-- A slot's block. -/
def SlotAt (w : World) (P : Nat) (ch : Bool) (vt org : Int) (v : Value) : Prop :=
  w.heap[P]? = some (.cells #[.int .u64 0, .int .i64 0, v, .bool ch, .bool false, .int .i64 org, .int .u64 0, .int .i64 0, .int .u64 vt, .slice none 0 0, .int .u64 0, .int .u64 0] 62 (0, 0))

theorem cell_blk {w : World} {N : Nat} {c : Array Value} {t : TypeId} (h : w.heap[N]? = some (.cells c t (0, 0))) (j : Nat) : w.cell? ⟨N, j, none⟩ = c[j]? := cell_of_row w N j c t (0, 0) h
theorem free_blk {w : World} {N : Nat} {c : Array Value} {t : TypeId} (h : w.heap[N]? = some (.cells c t (0, 0))) (j : Nat) : w.frozen? ⟨N, j, none⟩ = false := frozen_of_row w N j c t h
theorem lt_blk {w : World} {N : Nat} {o : Obj} (h : w.heap[N]? = some o) : N < w.heap.size := (Array.getElem?_eq_some_iff.1 h).1

/-- What acceptMessage reads. -/
def AccS (N P : Nat) (rd rep : Int) (v : Value) (org : Int) (w : World) : Prop :=
  w.rangeAt N 46 [.int .u64 rd, .int .i64 rep] ∧ w.cell? ⟨P, 2, none⟩ = some v ∧ w.cell? ⟨P, 5, none⟩ = some (.int .i64 org)

def zero70 : Array Value := #[Value.int IntKind.u8 0, Value.int IntKind.i64 0, Value.int IntKind.i64 0, Value.int IntKind.u64 0, Value.int IntKind.i64 0, Value.int IntKind.u64 0, Value.slice none 0 0, Value.slice none 0 0, Value.pointer none, Value.int IntKind.u64 0, Value.slice none 0 0, Value.slice none 0 0, Value.int IntKind.i64 0, Value.int IntKind.u64 0, Value.int IntKind.i64 0, Value.bool false, Value.int IntKind.i64 0, Value.int IntKind.u64 0, Value.int IntKind.u64 0, Value.int IntKind.i64 0]
theorem below_drewN {B : Nat} {a w : World} (h : Below B a w) (n : Nat) : Below B a (w.drewN n) := h.trans ⟨rfl, rfl, rfl, Nat.le_refl _, fun _ _ => rfl⟩
/-- An operation that is one call of the model's and hands on its value. -/
theorem op_value {P : Program} {w w' : World} {s : Sem Value} {v : Value} (hs : s.run P w = .ok v w') : (do pure (Next.value (← s)) : Sem Next).run P w = .ok (.value v) w' := by
  simp only [Sem.run_bind, hs, Result.andThen_ok, Sem.run_pure]
/-- An operation is taken first, its place named. -/
theorem takeD {P : Program} {ops : Array Oper} {Q : Exit → Act → World → Prop} {md : Region.Mode} {S : World → Prop} {i : Nat} (d : Option Tmp) {oi : Oper} (v : Value) {fuel : Nat} {listed : Array Bool} {a : Act} {w : World} (hi : ops[i]? = some oi) (hd : oi.dst = d)
    (hs : Region.noSelect ops = true) (hf : Region.free md ops listed i = true) (hr : (Region.ready md ops listed).contains i = true)
    (hQ : ∀ c a w, Q (.panic c) (a.put d v) w → Q (.panic c) a w) (hw : Region.wanted oi (yielded ops a.tmps) = true) (hy : ∀ w, S w → (execOp a.eval oi).run P w = .ok (.value v) w) (hS : S w)
    (h : wpAnyH P md ops Q S fuel (listed.setIfInBounds i true) (a.put d v) w) : wpAnyH P md ops Q S (fuel + 1) listed a w := by
  subst hd
  exact wpAnyH_take hi hs hf hr hQ (.inl ⟨hw, hy⟩) hS h
/-- The last operation is a store of many cells. -/
theorem lastStore {P : Program} {ops : Array Oper} {Q : Exit → Act → World → Prop} {md : Region.Mode} {S : World → Prop} {i : Nat} {oi : Oper} {fuel : Nat} {listed : Array Bool} {a : Act} {w : World} (hi : ops[i]? = some oi) (hd : oi.dst = none)
    (hr : Region.ready md ops listed = [i]) (hw : Region.wanted oi (yielded ops a.tmps) = true) (ty : TypeId) (x y : Operand) (ho : oi.op = .store ty x y) (b o : Nat) (cells : Array Value) (hx : a.eval x = .pointer (some ⟨b, o, none⟩)) (hy : a.eval y = .agg cells)
    (ht : w.there b o cells.size) (hi70 : (P.info? ty).map (·.size) = some cells.size) (h1 : cells.all (·.oneCell') = true) (hdone : Region.ready md ops (listed.setIfInBounds i true) = [])
    {w2 : World} (hw2 : w.setCells b o cells.toList = w2) (hS : S w2) (h : Q .normal (a.put none undef) w2) : wpAnyH P md ops Q S (fuel + 1) listed a w := by
  subst hw2
  refine wpAnyH_ready hr (by simp) ?_
  refine AllReadyH.cons hi (fun K hK => ?_) AllReadyH.nil
  rw [if_pos hw]
  refine wp_store_mid ty x y ho b o cells hx hy ht hi70 h1 ?_
  rw [hd]
  exact hK.out _ _ hS (fun _ => wpAnyH_done hdone h _)
/-- A result that lies in memory as a row. -/
theorem results_row {P : Program} {fn : Func} {tmps : Array Value} {w : World} (k : Nat) (ty : TypeId) (hres : fn.results = #[.cell k ty]) (b : Nat) (ht : tmps.getD k undef = .pointer (some ⟨b, 0, none⟩)) (cs : List Value) (d : TypeDesc) (hc : w.rangeAt b 0 cs)
    (hu : P.underlying ty = some d) (hd : d.isRow = true) (hi : (P.info? ty).map (·.size) = some cs.length) : (results fn tmps).run P w = .ok (.agg cs.toArray) w := by
  have ht' : tmps[k]?.getD undef = .pointer (some ⟨b, 0, none⟩) := by rw [← ht]; simp
  simp [results, hres, ht', asAddr, run_loadVar_mid w b 0 ty cs d hc hu hd hi]
theorem setCells_os (b : Nat) : ∀ (vs : List Value) (o : Nat) (w : World), (w.setCells b o vs).os = w.os ∧ (w.setCells b o vs).tape = w.tape ∧ (w.setCells b o vs).output = w.output ∧ (w.setCells b o vs).heap.size = w.heap.size ∧ ∀ j, j ≠ b → (w.setCells b o vs).heap[j]? = w.heap[j]?
  | [], _, _ => ⟨rfl, rfl, rfl, rfl, fun _ _ => rfl⟩
  | v :: r, o, w => by
    obtain ⟨h1, h2, h3, h4, h5⟩ := setCells_os b r (o + 1) (w.setCell ⟨b, o, none⟩ v)
    refine ⟨h1.trans rfl, h2.trans rfl, h3.trans rfl, h4.trans (by simp), fun j hj => (h5 j hj).trans ?_⟩
    exact heap_setCell_other w ⟨b, o, none⟩ j v hj
theorem below_setCells {B : Nat} {a w : World} (h : Below B a w) {g : Nat} (hg : B ≤ g) (o : Nat) (vs : List Value) : Below B a (w.setCells g o vs) := by
  obtain ⟨h1, h2, h3, h4, h5⟩ := setCells_os g vs o w
  exact h.trans ⟨h1, h2, h3, Nat.le_of_eq h4.symm, fun j hj => h5 j (by omega)⟩
/-- A struct built, as a whole. -/
theorem op_build {P : Program} {w : World} {a : Act} {o : Oper} (t : TypeId) (parts : Array (Nat × Operand)) (ho : o.op = .build t parts) (vals : List (Nat × Value)) (hv : (parts.map fun (i, x) => (i, a.eval x)).toList = vals) {cells : Array Value} (hb : P.built t vals = some cells) :
    (execOp a.eval o).run P w = .ok (.value (.agg cells)) w := by
  subst hv
  unfold execOp
  simp only [ho, Sem.run_bind, run_build w t _ cells hb, Result.andThen_ok, Sem.run_pure]
theorem fa57_34 (N : Nat) (w : World) : (Instr.fieldAt 57 (.pointer (some ⟨N, 0, none⟩)) 34).run Yba.prog w = .ok (.pointer (some ⟨N, 46, none⟩)) w := by kernel_rfl
theorem fa62_1 (P : Nat) (w : World) : (Instr.fieldAt 62 (.pointer (some ⟨P, 0, none⟩)) 1).run Yba.prog w = .ok (.pointer (some ⟨P, 2, none⟩)) w := by kernel_rfl
theorem fa62_4 (P : Nat) (w : World) : (Instr.fieldAt 62 (.pointer (some ⟨P, 0, none⟩)) 4).run Yba.prog w = .ok (.pointer (some ⟨P, 5, none⟩)) w := by kernel_rfl
/-- One cell loaded. -/
theorem load_one {w : World} {a : Addr} {u : Value} (t : TypeId) (ht : ∀ w, (isAgg t).run Yba.prog w = .ok false w) (h : w.cell? a = some u) : (Instr.loadAt t (.pointer (some a))).run Yba.prog w = .ok u w := by
  simp [Instr.loadAt, Instr.sureAddr, loadVar, ht, h]
theorem agg3 (w : World) : (isAgg 3).run Yba.prog w = .ok false w := by kernel_rfl
theorem agg24 (w : World) : (isAgg 24).run Yba.prog w = .ok false w := by kernel_rfl
theorem agg54 (w : World) : (isAgg 54).run Yba.prog w = .ok false w := by kernel_rfl
theorem agg59 (w : World) : (isAgg 59).run Yba.prog w = .ok false w := by kernel_rfl
theorem row70 : ∃ d, Yba.prog.underlying 70 = some d ∧ d.isRow = true := ⟨_, Yba.underlying70, rfl⟩
theorem row31 : ∃ d, Yba.prog.underlying 31 = some d ∧ d.isRow = true := ⟨_, Yba.underlying31, rfl⟩
theorem AccS.alloc {N P : Nat} {rd rep : Int} {v : Value} {org : Int} {w : World} (h : AccS N P rd rep v org w) (o : Obj) : AccS N P rd rep v org (w.alloc o) :=
  ⟨World.rangeAt_alloc h.1 o, by rw [World.cell?_alloc_lt _ _ _ (World.block_lt_of_cell? w _ h.2.1)]; exact h.2.1, by rw [World.cell?_alloc_lt _ _ _ (World.block_lt_of_cell? w _ h.2.2)]; exact h.2.2⟩

set_option maxRecDepth 100000 in
set_option maxHeartbeats 400000 in
theorem acc_any (N M P : Nat) (self b nx rd rep to s : Int) (vi vo : Value) (ch : Bool) (vt org : Int) (sa : Option Addr) (sl sc : Nat) (w : World) (hN : NodeIs w N M self b nx rd rep vi vo) (hP : SlotAt w P ch vt org (.slice sa sl sc)) :
    Calls Yba.prog 7 #[.pointer (some ⟨N, 0, none⟩), .int .i64 to, .int .u64 s, .pointer (some ⟨P, 0, none⟩)] w fun e w' => e = .returned (.agg (msg 0 to rd rep s (.slice sa sl sc) org).toArray) ∧ Below w.heap.size w w' := by
  obtain ⟨nc, hb, n1, n12, n21, n53, n46, n47, n65, n66⟩ := hN
  have hNl := lt_blk hb
  have hPl := lt_blk hP
  have hS : AccS N P rd rep (.slice sa sl sc) org w := by
    refine ⟨fun j v hj => ?_, cell_blk hP 2, cell_blk hP 5⟩
    rcases j with _ | _ | j
    · obtain rfl := Option.some.inj hj; exact (cell_blk hb 46).trans n46
    · obtain rfl := Option.some.inj hj; exact (cell_blk hb 47).trans n47
    · simp at hj
  clear hP hb n1 n12 n21 n53 n46 n47 n65 n66
  go_enter Yba.func7, Yba.ntmps7
  go_wp2
  obtain ⟨w1, hw1⟩ : ∃ w1, w1 = w.alloc (Obj.cells #[Value.int IntKind.u8 0, Value.int IntKind.i64 0, Value.int IntKind.i64 0, Value.int IntKind.u64 0, Value.int IntKind.i64 0, Value.int IntKind.u64 0, Value.slice none 0 0, Value.slice none 0 0, Value.pointer none, Value.int IntKind.u64 0, Value.slice none 0 0, Value.slice none 0 0, Value.int IntKind.i64 0, Value.int IntKind.u64 0, Value.int IntKind.i64 0, Value.bool false, Value.int IntKind.i64 0, Value.int IntKind.u64 0, Value.int IntKind.u64 0, Value.int IntKind.i64 0] 70) := ⟨_, rfl⟩
  rw [← hw1]
  have hS1 : AccS N P rd rep (.slice sa sl sc) org w1 := by rw [hw1]; exact hS.alloc _
  have hR : w1.there w.heap.size 0 20 := by
    intro j hj
    have hh : w1.heap[w.heap.size]? = some (.cells zero70 70 (0, 0)) := by rw [hw1]; exact heap_alloc_new w _
    refine ⟨?_, free_blk hh _⟩
    rw [cell_blk hh, Array.getElem?_eq_getElem (show 0 + j < zero70.size by have : zero70.size = 20 := rfl; omega)]
    rfl
  have bel1 : Below w.heap.size w w1 := by rw [hw1]; exact (Below.refl _ w).alloc (Nat.le_refl _) _
  clear hw1 hS
  refine wp_region_held_drew (S := AccS N P rd rep (.slice sa sl sc) org) (by kernel_rfl) (by exact hS1) (fun hS2 => ?_)
  refine takeD (i := 0) (some 9) (.int .i64 to) rfl rfl (by kernel_rfl) (by kernel_rfl) (by kernel_rfl) (fun _ _ _ h => h) (by kernel_rfl) (fun w' hw' => rfl) hS2 ?_
  simp only [Act.put, List.setIfInBounds_toArray, List.set_cons_zero, List.set_cons_succ]
  refine takeD (i := 1) (some 10) (.pointer (some ⟨N, 0, none⟩)) rfl rfl (by kernel_rfl) (by kernel_rfl) (by kernel_rfl) (fun _ _ _ h => h) (by kernel_rfl) (fun w' hw' => rfl) hS2 ?_
  simp only [Act.put, List.setIfInBounds_toArray, List.set_cons_zero, List.set_cons_succ]
  refine takeD (i := 2) (some 11) (.pointer (some ⟨N, 0, none⟩)) rfl rfl (by kernel_rfl) (by kernel_rfl) (by kernel_rfl) (fun _ _ _ h => h) (by kernel_rfl) (fun w' hw' => rfl) hS2 ?_
  simp only [Act.put, List.setIfInBounds_toArray, List.set_cons_zero, List.set_cons_succ]
  refine takeD (i := 3) (some 12) (.pointer (some ⟨N, 46, none⟩)) rfl rfl (by kernel_rfl) (by kernel_rfl) (by kernel_rfl) (fun _ _ _ h => h) (by kernel_rfl) (fun w' hw' => op_value (fa57_34 N w')) hS2 ?_
  simp only [Act.put, List.setIfInBounds_toArray, List.set_cons_zero, List.set_cons_succ]
  refine takeD (i := 4) (some 13) (.agg #[.int .u64 rd, .int .i64 rep]) rfl rfl (by kernel_rfl) (by kernel_rfl) (by kernel_rfl) (fun _ _ _ h => h) (by kernel_rfl) (fun w' hw' => op_value (run_loadAt_mid w' N 46 31 [.int .u64 rd, .int .i64 rep] _ hw'.1 Yba.underlying31 rfl (size31 _ _))) hS2 ?_
  simp only [Act.put, List.setIfInBounds_toArray, List.set_cons_zero, List.set_cons_succ]
  refine takeD (i := 5) (some 14) (.int .u64 s) rfl rfl (by kernel_rfl) (by kernel_rfl) (by kernel_rfl) (fun _ _ _ h => h) (by kernel_rfl) (fun w' hw' => rfl) hS2 ?_
  simp only [Act.put, List.setIfInBounds_toArray, List.set_cons_zero, List.set_cons_succ]
  refine takeD (i := 6) (some 15) (.pointer (some ⟨P, 0, none⟩)) rfl rfl (by kernel_rfl) (by kernel_rfl) (by kernel_rfl) (fun _ _ _ h => h) (by kernel_rfl) (fun w' hw' => rfl) hS2 ?_
  simp only [Act.put, List.setIfInBounds_toArray, List.set_cons_zero, List.set_cons_succ]
  refine takeD (i := 7) (some 16) (.pointer (some ⟨P, 0, none⟩)) rfl rfl (by kernel_rfl) (by kernel_rfl) (by kernel_rfl) (fun _ _ _ h => h) (by kernel_rfl) (fun w' hw' => rfl) hS2 ?_
  simp only [Act.put, List.setIfInBounds_toArray, List.set_cons_zero, List.set_cons_succ]
  refine takeD (i := 8) (some 17) (.pointer (some ⟨P, 2, none⟩)) rfl rfl (by kernel_rfl) (by kernel_rfl) (by kernel_rfl) (fun _ _ _ h => h) (by kernel_rfl) (fun w' hw' => op_value (fa62_1 P w')) hS2 ?_
  simp only [Act.put, List.setIfInBounds_toArray, List.set_cons_zero, List.set_cons_succ]
  refine takeD (i := 9) (some 18) (.slice sa sl sc) rfl rfl (by kernel_rfl) (by kernel_rfl) (by kernel_rfl) (fun _ _ _ h => h) (by kernel_rfl) (fun w' hw' => op_value (load_one 59 agg59 hw'.2.1)) hS2 ?_
  simp only [Act.put, List.setIfInBounds_toArray, List.set_cons_zero, List.set_cons_succ]
  refine takeD (i := 10) (some 19) (.pointer (some ⟨P, 0, none⟩)) rfl rfl (by kernel_rfl) (by kernel_rfl) (by kernel_rfl) (fun _ _ _ h => h) (by kernel_rfl) (fun w' hw' => rfl) hS2 ?_
  simp only [Act.put, List.setIfInBounds_toArray, List.set_cons_zero, List.set_cons_succ]
  refine takeD (i := 11) (some 20) (.pointer (some ⟨P, 0, none⟩)) rfl rfl (by kernel_rfl) (by kernel_rfl) (by kernel_rfl) (fun _ _ _ h => h) (by kernel_rfl) (fun w' hw' => rfl) hS2 ?_
  simp only [Act.put, List.setIfInBounds_toArray, List.set_cons_zero, List.set_cons_succ]
  refine takeD (i := 12) (some 21) (.pointer (some ⟨P, 5, none⟩)) rfl rfl (by kernel_rfl) (by kernel_rfl) (by kernel_rfl) (fun _ _ _ h => h) (by kernel_rfl) (fun w' hw' => op_value (fa62_4 P w')) hS2 ?_
  simp only [Act.put, List.setIfInBounds_toArray, List.set_cons_zero, List.set_cons_succ]
  refine takeD (i := 13) (some 22) (.int .i64 org) rfl rfl (by kernel_rfl) (by kernel_rfl) (by kernel_rfl) (fun _ _ _ h => h) (by kernel_rfl) (fun w' hw' => op_value (load_one 3 agg3 hw'.2.2)) hS2 ?_
  simp only [Act.put, List.setIfInBounds_toArray, List.set_cons_zero, List.set_cons_succ]
  refine takeD (i := 14) (some 23) (.agg (msg 0 to rd rep s (.slice sa sl sc) org).toArray) rfl rfl (by kernel_rfl) (by kernel_rfl) (by kernel_rfl) (fun _ _ _ h => h) (by kernel_rfl) (fun w' hw' => op_build 70 _ rfl _ (by kernel_rfl) (msg_built to rd rep s sa sl sc org)) hS2 ?_
  simp only [Act.put, List.setIfInBounds_toArray, List.set_cons_zero, List.set_cons_succ]
  obtain ⟨w2, hw2⟩ : ∃ w2, w1.drew.setCells w.heap.size 0 (msg 0 to rd rep s (.slice sa sl sc) org) = w2 := ⟨_, rfl⟩
  have hbel : Below w.heap.size w w2 := by rw [← hw2]; exact below_setCells bel1.drew (Nat.le_refl _) 0 _
  have hrow : w2.rangeAt w.heap.size 0 (msg 0 to rd rep s (.slice sa sl sc) org) := by rw [← hw2]; exact World.rangeAt_setCells_same _ _ _ _ (by exact hR)
  have hS3 : AccS N P rd rep (.slice sa sl sc) org w2 := by
    have hb : Below w.heap.size w1.drew w2 := by rw [← hw2]; exact below_setCells (Below.refl _ _) (Nat.le_refl _) 0 _
    refine ⟨by rw [← hw2]; exact World.rangeAt_setCells_apart hS2.1 _ _ _ (.inl (by omega)), ?_, ?_⟩
    · rw [hb.cell (p := ⟨P, 2, none⟩) (by exact hPl)]; exact hS2.2.1
    · rw [hb.cell (p := ⟨P, 5, none⟩) (by exact hPl)]; exact hS2.2.2
  refine lastStore (i := 15) rfl rfl (by kernel_rfl) (by kernel_rfl) 70 (.tmp 8) (.tmp 23) rfl w.heap.size 0 (msg 0 to rd rep s (.slice sa sl sc) org).toArray rfl rfl (by exact hR) (size70 ..) (msg_one ..) (by kernel_rfl) hw2 hS3 ?_
  clear hw2 hS3 hS2 hR hS1
  simp only [Act.put]
  go_wp2
  exact bodyPost_ret (results_row 8 70 rfl w.heap.size rfl _ _ hrow Yba.underlying70 rfl (len70 ..)) rfl ⟨rfl, hbel⟩
end Go.Proofs.Ybulkbdju
