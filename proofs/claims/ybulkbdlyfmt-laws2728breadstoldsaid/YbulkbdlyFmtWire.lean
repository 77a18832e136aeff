/- The wire decoder's parts on LawS2728BReads' road, walked. -/
import Derived.Test.YbulkbdlyFmtRows
import Derived.WalkKit
import Derived.WalkSpells
import Derived.WalkLawsBesides
import Derived.BigQuiet
import Derived.Handy
import Derived.Lib.SliceRun
import Derived.Lib.Walk
import Derived.Deep.LoopGhost
import Derived.Deep.OwnRows
import Derived.Laws.CopyRow
import Derived.Laws.IdiomCopy
import Derived.Stop.CallBack
import Derived.Stop.IfaceNil
import GoSem.ClaimData
namespace Go.Proofs.YbulkbdlyFmt
open Go.RowKit Go.Extern.Stop Go.Stop Go.Extern

theorem hide {p : Prop} (h : p) : Hid p := h
theorem below_drewN {B : Nat} {a w : World} (h : Below B a w) (n : Nat) : Below B a (w.drewN n) := h.trans ⟨rfl, rfl, rfl, Nat.le_refl _, fun _ _ => rfl⟩

theorem Ybaf.call13 (args : Array Value) (w : World) : (callFunc 13 args).run Ybaf.prog w = (FmtCalls.sprintf #[9, 48] #[9] args).run Ybaf.prog w :=
  run_callFunc_next Ybaf.func13 (by kernel_rfl) (by kernel_rfl) (by kernel_rfl) args w
theorem Ybaf.guard (name : String) (w : World) : (FmtStop.guard name).run Ybaf.prog w = .ok () w := by kernel_rfl
theorem Ybaf.nextTurns : Extern.next FmtCalls.turnsRow = some (FmtCalls.begun #[] #[]) := by kernel_rfl
theorem Ybaf.fmt0 : FmtStop.printed? ⟨#[116, 104, 101, 32, 98, 111, 100, 121, 32, 101, 110, 100, 115, 32, 105, 110, 115, 105, 100, 101, 32, 97, 32, 102, 105, 101, 108, 100]⟩ 0 = some [] := by kernel_rfl
attribute [local go_sem] Ybaf.call13 Ybaf.guard Ybaf.fmt0

theorem Ybaf.info5 : (Ybaf.prog.info? 5).map (fun i => (i.zero, i.size, i.bytes)) = some (some (.int .u8 0), 1, 1) := by kernel_rfl
theorem q22 (w : World) (a : Option Addr) (n c n' c' : Nat) : (binOp .eql 22 (.slice a n c) (.slice none n' c')).run Ybaf.prog w = .ok (.bool a.isNone) w := Lib.run_eql_slice_nil w _ _ a n c n' c' Ybaf.underlying22
theorem eq25 (a : Addr) (w : World) : (binOp .eql 25 (.iface 39 (.pointer (some a))) (.iface 39 (.pointer (some a)))).run Ybaf.prog w = .ok (.bool true) w := by
  obtain ⟨i, hi, hc⟩ := Option.map_eq_some_iff.1 (show (Ybaf.prog.info? 39).map (·.comparable) = some true by kernel_rfl)
  obtain ⟨j, hj, hs⟩ := Option.map_eq_some_iff.1 (show (Ybaf.prog.info? 41).map (·.size) = some 1 by kernel_rfl)
  exact run_eql_iface_same w 25 39 41 i 0 (by kernel_rfl) (by simp [typeInfo, hi]) hc Ybaf.underlying39 (by simp [sizeOf, typeInfo, hj, hs]) a

/-- What the copy holds. -/
structure Cpy (w w' : World) (a : Option Addr) (g n : Nat) (f : Nat → Int) : Prop where
  spot : 0 < n → a = some ⟨g, 0, none⟩
  ge : 0 < n → w.heap.size ≤ g
  lt : 0 < n → g < w'.heap.size
  cells : ∀ j, j < n → w'.cell? ⟨g, j, none⟩ = some (.int .u8 (f j))
  below : Below w.heap.size w w'
def CopyOut (w : World) (n : Nat) (f : Nat → Int) (e : Ending) (w' : World) : Prop := ∃ a g, e = .returned (.slice a n n) ∧ Cpy w w' a g n f
theorem below_setRow {B : Nat} {a w : World} (h : Below B a w) {g : Nat} (hg : B ≤ g) (cs : Array Value) : Below B a (w.setRow g cs) :=
  h.trans ⟨rfl, rfl, rfl, by simp [World.setRow], fun j hj => by
    unfold World.setRow
    rw [Array.getElem?_modify]
    simp [show g ≠ j by omega]⟩

set_option maxRecDepth 100000 in
set_option maxHeartbeats 400000 in
theorem copy_any (ao : Option Addr) (b off n c : Nat) (f : Nat → Int) (w : World) (hn : n ≤ 1024) (z : ao = none → n = 0) (hao : 0 < n → ao = some ⟨b, off, none⟩)
    (hc : ∀ j, j < n → w.cell? ⟨b, off + j, none⟩ = some (.int .u8 (f j))) :
    Calls Ybaf.prog 5 #[.slice ao n c] w fun e w' => CopyOut w n f e w' := by
  have hq := q22
  cases ao with
  | none =>
    obtain rfl := z rfl
    go_enter Ybaf.func5, Ybaf.ntmps5
    go_wp2
    go_ret
    exact ⟨none, 0, rfl, by omega, by omega, by omega, by omega, Below.refl _ w⟩
  | some a =>
    have hmk := run_make_row' (P := Ybaf.prog) 22 5 _ 1 Ybaf.underlying22 Ybaf.info5 rfl .i64 .i64 n (by omega) (by omega) w
    have hs5 : (Ybaf.prog.info? 5).map (·.size) = some 1 := by kernel_rfl
    obtain ⟨w1, hw1⟩ : ∃ w1, w1 = w.alloc (.cells (madeCells #[.int .u8 0] n) 5) := ⟨_, rfl⟩
    rw [← hw1] at hmk
    have hb1 : w1.heap[w.heap.size]? = some (.cells (madeCells #[.int .u8 0] n) 5 (0, 0)) := by rw [hw1]; exact heap_alloc_new w _
    have bel1 : Below w.heap.size w w1 := by rw [hw1]; exact (Below.refl _ w).alloc (Nat.le_refl _) _
    have hcp : ∃ m w2, (∀ ty, (Builtin.copy_ #[22, 22] ty #[.slice (some ⟨w.heap.size, 0, none⟩) n n, .slice (some a) n c]).run Ybaf.prog w1 = .ok (goInt m) w2) ∧ Cpy w w2 (some ⟨w.heap.size, 0, none⟩) w.heap.size n f := by
      by_cases h0 : n = 0
      · subst h0
        exact ⟨0, w1, fun ty => run_copy_none w1 22 22 ty 5 _ _ 0 0 0 c Ybaf.underlying22 hs5 rfl, fun _ => rfl, fun _ => Nat.le_refl _, by omega, by omega, bel1⟩
      · obtain rfl := Option.some.inj (hao (by omega))
        have hcs : ((List.range n).map fun j => Value.int .u8 (f j)).length = n := by simp
        have hlk : ∀ j v, ((List.range n).map fun j => Value.int .u8 (f j))[j]? = some v → w1.cell? ((⟨b, off, none⟩ : Addr).add j) = some v := by
          intro j v hj
          have hjn : j < n := by
            rcases Nat.lt_or_ge j n with h | h
            · exact h
            · rw [List.getElem?_eq_none (by rw [hcs]; exact h)] at hj; cases hj
          rw [List.getElem?_map, List.getElem?_range hjn] at hj
          obtain rfl := Option.some.inj hj
          rw [Addr.add_lit, bel1.cell (World.block_lt_of_cell? _ _ (hc j hjn))]
          exact hc j hjn
        refine ⟨_, _, fun ty => run_copy_row Ybaf.prog w1 22 22 ty 5 w.heap.size 0 n n ⟨b, off, none⟩ n c _ 5 _ Ybaf.underlying22 hs5 hb1 (by rw [hcs]; simp) hlk (by rw [hcs]; simp [size_madeCells]) ?_, fun _ => rfl, fun _ => Nat.le_refl _, ?_, ?_, ?_⟩
        · intro v hv
          obtain ⟨j, _, rfl⟩ := List.mem_map.1 hv
          rfl
        · intro _
          have := (Array.getElem?_eq_some_iff.1 (setRow_heap w1 w.heap.size _ (((madeCells #[Value.int .u8 0] n).toList.take 0 ++ ((List.range n).map fun j => Value.int .u8 (f j)) ++ (madeCells #[Value.int .u8 0] n).toList.drop (0 + ((List.range n).map fun j => Value.int .u8 (f j)).length)).toArray) 5 (0, 0) hb1)).1
          exact this
        · intro j hj
          rw [cell_of_row _ w.heap.size j _ _ _ (setRow_heap w1 w.heap.size _ _ 5 (0, 0) hb1)]
          rw [List.getElem?_toArray, List.take_zero, List.nil_append, List.getElem?_append_left (by rw [hcs]; exact hj), List.getElem?_map, List.getElem?_range hj]
          rfl
        · exact below_setRow bel1 (Nat.le_refl _) _
    obtain ⟨m, w2, hrun, hC⟩ := hcp
    replace hC := hide hC
    clear hw1 hb1 bel1
    go_enter Ybaf.func5, Ybaf.ntmps5
    go_wp2
    go_ret
    exact ⟨_, _, rfl, hC.out⟩

theorem new_any (s : ByteArray) (w : World) :
    Calls Ybaf.prog 6 #[.string s] w fun e w' => e = .returned (.iface 39 (.pointer (some ⟨w.heap.size, 0, none⟩))) ∧ w' = w.alloc (.cells #[.string s] 41) := by
  go_enter Ybaf.func6, Ybaf.ntmps6
  go_wp2
  go_ret
  exact ⟨rfl, rfl⟩

set_option maxRecDepth 100000 in
set_option maxHeartbeats 400000 in
theorem fail_any (F : Interp) (D : Nat) (w : World) (hF : F.answers w.tape) (x : Value) (hD : w.heap[D]? = some (.cells #[x, .nilIface] 29 (0, 0))) :
    Calls Ybaf.prog 12 #[.pointer (some ⟨D, 0, none⟩), .string ⟨#[116, 104, 101, 32, 98, 111, 100, 121, 32, 101, 110, 100, 115, 32, 105, 110, 115, 105, 100, 101, 32, 97, 32, 102, 105, 101, 108, 100]⟩, .slice none 0 0] w fun e w' => e = .returned (.tuple #[]) ∧
      w'.heap[D]? = some (.cells #[x, .iface 32 (.pointer (some ⟨w.heap.size, 0, none⟩))] 29 (0, 0)) ∧ Below D w w' := by
  have hF' := answers_open hF
  have d1 : w.cell? ⟨D, 1, none⟩ = some .nilIface := cell_of_row w D 1 _ _ _ hD
  have f1 := frozen_of_row w D 1 _ _ hD
  have dl : D < w.heap.size := (Array.getElem?_eq_some_iff.1 hD).1
  go_enter Ybaf.func12, Ybaf.ntmps12
  go_wp2
  apply rows_value Ybaf.nextTurns
  case hr =>
    go_simp
    exact ⟨rfl, rfl⟩
  case h =>
    go_wp2
    refine bodyPost_end (v := .tuple #[]) (by simp [results, Ybaf.results12, go_sem]) rfl ⟨rfl, ?_, ?_⟩
    · have hs := heap_setCell_same w D 1 _ 29 (.iface 32 (.pointer (some ⟨w.heap.size, 0, none⟩))) hD
      have hx := Below.heap_alloc (w.setCell ⟨D, 1, none⟩ (.iface 32 (.pointer (some ⟨w.heap.size, 0, none⟩)))) (.cells #[.string (FmtStop.textOf (F "fmt.Sprintf" [[116, 104, 101, 32, 98, 111, 100, 121, 32, 101, 110, 100, 115, 32, 105, 110, 115, 105, 100, 101, 32, 97, 32, 102, 105, 101, 108, 100]] 0))] 51) D (by go_grown)
      exact hx.trans hs
    · exact (((Below.refl _ w).setCell (p := ⟨D, 1, none⟩) (Nat.le_refl _) _).alloc (by go_grown) _).drew

/-- The text of the failure: what is in the block is of no matter to the law. -/
structure Dec (w : World) (D : Nat) (buf err : Value) : Prop where
  at_ : w.heap[D]? = some (.cells #[buf, err] 29 (0, 0))
theorem Dec.buf {w : World} {D : Nat} {x y : Value} (h : Dec w D x y) : w.cell? ⟨D, 0, none⟩ = some x := cell_of_row w D 0 _ _ _ h.at_
theorem Dec.err {w : World} {D : Nat} {x y : Value} (h : Dec w D x y) : w.cell? ⟨D, 1, none⟩ = some y := cell_of_row w D 1 _ _ _ h.at_
theorem Dec.free {w : World} {D : Nat} {x y : Value} (h : Dec w D x y) (j : Nat) : w.frozen? ⟨D, j, none⟩ = false := frozen_of_row w D j _ _ h.at_
theorem Dec.lt {w : World} {D : Nat} {x y : Value} (h : Dec w D x y) : D < w.heap.size := (Array.getElem?_eq_some_iff.1 h.at_).1

set_option maxRecDepth 100000 in
set_option maxHeartbeats 400000 in
theorem take_failed (D : Nat) (x : Value) (u : TypeId) (y : Value) (w : World) (hD : Dec w D x (.iface u y)) :
    Calls Ybaf.prog 9 #[.pointer (some ⟨D, 0, none⟩), .int .i64 8] w fun e w' => e = .returned (.slice none 0 0) ∧ w' = w := by
  have d1 := hD.err
  have dl := hD.lt
  go_enter Ybaf.func9, Ybaf.ntmps9
  go_wp2
  go_ret
  exact ⟨rfl, rfl⟩

set_option maxRecDepth 100000 in
set_option maxHeartbeats 400000 in
theorem take_short (F : Interp) (D : Nat) (a : Option Addr) (n c : Nat) (w : World) (hF : F.answers w.tape) (hn : n < 8) (hD : Dec w D (.slice a n c) .nilIface) :
    Calls Ybaf.prog 9 #[.pointer (some ⟨D, 0, none⟩), .int .i64 8] w fun e w' => e = .returned (.slice none 0 0) ∧ Dec w' D (.slice a n c) (.iface 32 (.pointer (some ⟨w.heap.size, 0, none⟩))) ∧ Below D w w' := by
  have d0 := hD.buf
  have d1 := hD.err
  have dl := hD.lt
  have lt8 : decide ((n : Int) < 8) = true := by simp; omega
  go_enter Ybaf.func9, Ybaf.ntmps9
  go_wp2_with (go_at_call 12; refine (fail_any F D _ (by exact hF) _ hD.at_).mono ?_; rintro e w' ⟨rfl, h1, h2⟩)
  go_ret
  exact ⟨rfl, ⟨h1⟩, h2⟩

def TakeOut (D g n c : Nat) (w : World) (e : Ending) (w' : World) : Prop := e = .returned (.slice (some ⟨g, 0, none⟩) 8 c) ∧ ∃ o, (8 < n → o = 8) ∧ w' = w.setCell ⟨D, 0, none⟩ (.slice (some ⟨g, o, none⟩) (n - 8) (c - 8))

set_option maxRecDepth 100000 in
set_option maxHeartbeats 400000 in
theorem take_long (D g n c : Nat) (w : World) (hn : 8 ≤ n) (hc : n ≤ c) (hm : c ≤ 281474976710656) (hD : Dec w D (.slice (some ⟨g, 0, none⟩) n c) .nilIface) :
    Calls Ybaf.prog 9 #[.pointer (some ⟨D, 0, none⟩), .int .i64 8] w fun e w' => TakeOut D g n c w e w' := by
  have d0 := hD.buf
  have d1 := hD.err
  have f0 := hD.free 0
  have dl := hD.lt
  have lt8 : decide ((n : Int) < 8) = false := by simp; omega
  by_cases h8 : c = 8
  · subst h8
    go_enter Ybaf.func9, Ybaf.ntmps9
    go_wp2
    go_ret
    have : n - 8 = 0 := by omega
    exact ⟨rfl, 0, by omega, by rw [this]⟩
  · go_enter Ybaf.func9, Ybaf.ntmps9
    go_wp2
    go_ret
    exact ⟨rfl, 8, by omega, rfl⟩

/-- The number that Uint64 reads. -/
def be (x0 x1 x2 x3 x4 x5 x6 x7 : Int) : Int :=
  bits .or .u64 (bits .or .u64 (bits .or .u64 (bits .or .u64 (bits .or .u64 (bits .or .u64 (bits .or .u64 x7 (x6 * 256)) (x5 * 65536)) (x4 * 16777216)) (x3 * 4294967296)) (x2 * 1099511627776)) (x1 * 281474976710656)) (x0 * 72057594037927936)

set_option maxRecDepth 100000 in
set_option maxHeartbeats 1000000 in
theorem uint_any (g c : Nat) (f : Nat → Int) (w : World) (hr : ∀ j, j < 8 → 0 ≤ f j ∧ f j < 256) (hc : ∀ j, j < 8 → w.cell? ⟨g, j, none⟩ = some (.int .u8 (f j))) :
    Calls Ybaf.prog 10 #[.agg #[], .slice (some ⟨g, 0, none⟩) 8 c] w fun e w' => e = .returned (.int .u64 (be (f 0) (f 1) (f 2) (f 3) (f 4) (f 5) (f 6) (f 7))) ∧ Below w.heap.size w w' := by
  have c0 := hc 0 (by omega)
  have c1 := hc 1 (by omega)
  have c2 := hc 2 (by omega)
  have c3 := hc 3 (by omega)
  have c4 := hc 4 (by omega)
  have c5 := hc 5 (by omega)
  have c6 := hc 6 (by omega)
  have c7 := hc 7 (by omega)
  have r0 := hr 0 (by omega)
  have r1 := hr 1 (by omega)
  have r2 := hr 2 (by omega)
  have r3 := hr 3 (by omega)
  have r4 := hr 4 (by omega)
  have r5 := hr 5 (by omega)
  have r6 := hr 6 (by omega)
  have r7 := hr 7 (by omega)
  have gl : g < w.heap.size := World.block_lt_of_cell? _ _ c0
  clear hc hr
  generalize f 0 = x0 at *
  generalize f 1 = x1 at *
  generalize f 2 = x2 at *
  generalize f 3 = x3 at *
  generalize f 4 = x4 at *
  generalize f 5 = x5 at *
  generalize f 6 = x6 at *
  generalize f 7 = x7 at *
  go_enter Ybaf.func10, Ybaf.ntmps10
  go_wp2_with fail
  go_quiet (fail)
  go_wp2
  go_ret
  exact ⟨rfl, below_drewN ((Below.refl _ w).alloc (Nat.le_refl _) _) _⟩

set_option maxRecDepth 100000 in
set_option maxHeartbeats 400000 in
theorem u64_failed (D : Nat) (x : Value) (u : TypeId) (y : Value) (w : World) (hD : Dec w D x (.iface u y)) :
    Calls Ybaf.prog 7 #[.pointer (some ⟨D, 0, none⟩)] w fun e w' => e = .returned (.int .u64 0) ∧ w' = w := by
  go_enter Ybaf.func7, Ybaf.ntmps7
  go_wp2_with (go_at_call 9; refine (take_failed D x u y _ hD).mono ?_; rintro e w' ⟨rfl, rfl⟩)
  go_ret
  exact ⟨rfl, rfl⟩

set_option maxRecDepth 100000 in
set_option maxHeartbeats 400000 in
theorem u64_short (F : Interp) (D : Nat) (a : Option Addr) (n c : Nat) (w : World) (hF : F.answers w.tape) (hn : n < 8) (hD : Dec w D (.slice a n c) .nilIface) :
    Calls Ybaf.prog 7 #[.pointer (some ⟨D, 0, none⟩)] w fun e w' => e = .returned (.int .u64 0) ∧ Dec w' D (.slice a n c) (.iface 32 (.pointer (some ⟨w.heap.size, 0, none⟩))) ∧ Below D w w' := by
  go_enter Ybaf.func7, Ybaf.ntmps7
  go_wp2_with (go_at_call 9; refine (take_short F D a n c _ (by exact hF) hn hD).mono ?_; rintro e w' ⟨rfl, h1, h2⟩)
  go_ret
  exact ⟨rfl, h1, h2⟩

/-- What u64 leaves behind where it reads. -/
structure Read (w w' : World) (D g n c : Nat) (x : Int) (e : Ending) : Prop where
  ret : e = .returned (.int .u64 x)
  dec : ∃ o, (8 < n → o = 8) ∧ Dec w' D (.slice (some ⟨g, o, none⟩) (n - 8) (c - 8)) .nilIface
  below : Below D w w'

set_option maxRecDepth 100000 in
set_option maxHeartbeats 400000 in
theorem u64_long (D g n c : Nat) (f : Nat → Int) (w : World) (hn : 8 ≤ n) (hcap : n ≤ c) (hm : c ≤ 281474976710656) (hD : Dec w D (.slice (some ⟨g, 0, none⟩) n c) .nilIface) (hgD : g < D)
    (hr : ∀ j, j < 8 → 0 ≤ f j ∧ f j < 256) (hc : ∀ j, j < 8 → w.cell? ⟨g, j, none⟩ = some (.int .u8 (f j))) :
    Calls Ybaf.prog 7 #[.pointer (some ⟨D, 0, none⟩)] w fun e w' => Read w w' D g n c (be (f 0) (f 1) (f 2) (f 3) (f 4) (f 5) (f 6) (f 7)) e := by
  have hl := hD.lt
  replace hD := hide hD
  replace hc := hide hc
  replace hr := hide hr
  go_enter Ybaf.func7, Ybaf.ntmps7
  go_wp2_with (first
    | (go_at_call 9
       refine (take_long D g n c _ hn hcap hm hD.out).mono ?_
       rintro e w1 ⟨rfl, o, ho, hw1⟩
       have hd1 : Hid (Dec w1 D (.slice (some ⟨g, o, none⟩) (n - 8) (c - 8)) .nilIface) := ⟨by rw [hw1]; exact heap_setCell_same w D 0 _ 29 _ hD.out.at_⟩
       have hb1 : Hid (Below D w w1) := by rw [hw1]; exact (Below.refl _ w).setCell (p := ⟨D, 0, none⟩) (Nat.le_refl _) _
       have hc1 : Hid (∀ j, j < 8 → w1.cell? ⟨g, j, none⟩ = some (.int .u8 (f j))) := fun j hj => by rw [hb1.out.cell (p := ⟨g, j, none⟩) (by exact hgD)]; exact hc.out j hj
       replace ho := hide ho
       clear hw1)
    | (go_at_call 10
       refine (uint_any g c f _ hr.out hc1.out).mono ?_
       rintro e w2 ⟨rfl, hb2⟩))
  go_ret
  have hlt1 := hd1.out.lt
  exact ⟨rfl, ⟨o, ho.out, ⟨by rw [hb2.block D hlt1]; exact hd1.out.at_⟩⟩, hb1.out.trans (hb2.mono (by omega))⟩
end Go.Proofs.YbulkbdlyFmt
