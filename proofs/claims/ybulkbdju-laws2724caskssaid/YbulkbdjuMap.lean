import Derived.Test.YbulkbdjuRows
import Derived.WalkKit
import Derived.WalkSpells
import Derived.WalkLawsBesides
import Derived.Maps.Own
import Derived.Deep.AppendLies
namespace Go.Proofs.Ybulkbdju
open Go.RowKit Go.Maps Go.ChangeMaps Go.WideMaps Go.WideElems

theorem hide {p : Prop} (h : p) : Hid p := h
theorem keyed : Keyed Yba.prog 24 := int_keyed Yba.underlying24
/-- The map in block M holds just these, in the order laid. -/
structure MapIs (w : World) (M : Nat) (kv : List (Int × Value)) : Prop where
  ex : ∃ (es : Array MapEntry) (clock : Nat), w.heap[M]? = some (.map es clock) ∧ es.toList.map (fun e => (e.key, e.val)) = kv.map (fun x => (Value.int .u64 x.1, x.2))
  wf : ∀ x, x ∈ kv → 0 ≤ x.1 ∧ x.1 < 18446744073709551616

theorem wf_u64 {a : Int} (h0 : 0 ≤ a) (h1 : a < 18446744073709551616) : (Lit.int .u64 a).wf = true := by
  have e1 : IntKind.u64.min = 0 := rfl
  have e2 : IntKind.u64.max = 18446744073709551615 := rfl
  simp [Lit.wf, e1, e2]; omega
theorem key_ok {a : Int} (h0 : 0 ≤ a) (h1 : a < 18446744073709551616) : keyOf Yba.prog 24 (.int .u64 a) = some (.int .u64 a) := keyOf_int_mk Yba.underlying24 (wf_u64 h0 h1)

theorem map_keys {kv : List (Int × Value)} {es : Array MapEntry} (h : es.toList.map (fun e => (e.key, e.val)) = kv.map (fun x => (Value.int .u64 x.1, x.2))) :
    ∀ e, e ∈ es.toList → ∃ x, x ∈ kv ∧ e.key = .int .u64 x.1 ∧ e.val = x.2 := by
  intro e he
  have : (e.key, e.val) ∈ kv.map (fun x => (Value.int .u64 x.1, x.2)) := by rw [← h]; exact List.mem_map.2 ⟨e, he, rfl⟩
  obtain ⟨x, hx, hxe⟩ := List.mem_map.1 this
  simp only [Prod.mk.injEq] at hxe
  exact ⟨x, hx, hxe.1.symm, hxe.2.symm⟩

theorem MapIs.update {w : World} {M : Nat} {kv : List (Int × Value)} (h : MapIs w M kv) {k : Int} (h0 : 0 ≤ k) (h1 : k < 18446744073709551616) (hnew : ∀ x, x ∈ kv → x.1 ≠ k) (v : Value) :
    ∃ w', (Instr.mapUpdate 29 (.map (some M)) (.int .u64 k) v).run Yba.prog w = .ok () w' ∧ MapIs w' M (kv ++ [(k, v)]) ∧ w.grownBy w' (some M) ∧ w'.heap.size = w.heap.size := by
  obtain ⟨es, clock, hb, hes⟩ := h.ex
  have hk := map_keys hes
  have hkeys : ∀ e ∈ es.toList, ∃ l, keyOf Yba.prog 24 e.key = some l := fun e he => by
    obtain ⟨x, hx, hxe, _⟩ := hk e he
    have := h.wf x hx
    rw [hxe]; exact ⟨_, key_ok this.1 this.2⟩
  rcases keyed.find w (key_ok h0 h1) es.toList hkeys with ⟨f1, _⟩ | ⟨j, e0, _, f2, f3⟩
  · refine ⟨setBlock w M (.map (es.push ⟨.int .u64 k, v, clock⟩) (clock + 1)), by simp [Instr.mapUpdate, run_underlying Yba.underlying29, MapKept.run_getObj_map hb, keyed.check w false (key_ok h0 h1), f1, MapKept.run_setObj_map _ hb, Result.andThen, setBlock], ⟨⟨es.push ⟨.int .u64 k, v, clock⟩, clock + 1, heap_setBlock_same hb _, ?_⟩, ?_⟩, ⟨rfl, rfl, rfl, by simp [setBlock], fun i _ hi => heap_setBlock_other hb _ (fun e => hi (by rw [e]))⟩, by simp [setBlock]⟩
    · simp [hes]
    · intro x hx
      rcases List.mem_append.1 hx with hx | hx
      · exact h.wf x hx
      · simp at hx; subst hx; exact ⟨h0, h1⟩
  · obtain ⟨x, hx, hxe, _⟩ := hk e0 (List.mem_of_getElem? f2)
    rw [f3] at hxe
    simp at hxe
    exact absurd hxe.symm (hnew x hx)

theorem pair_one {kv : List (Int × Value)} (hp : kv.Pairwise (fun a b => a.1 ≠ b.1)) {x y : Int × Value} (hx : x ∈ kv) (hy : y ∈ kv) (h : x.1 = y.1) : x = y := by
  induction kv with
  | nil => cases hx
  | cons z r ih =>
    rw [List.pairwise_cons] at hp
    rcases List.mem_cons.1 hx with rfl | hx'
    · rcases List.mem_cons.1 hy with rfl | hy'
      · rfl
      · exact absurd h (hp.1 y hy')
    · rcases List.mem_cons.1 hy with rfl | hy'
      · exact absurd h.symm (hp.1 x hx')
      · exact ih hp.2 hx' hy'
theorem MapIs.kept {w w' : World} {M : Nat} {kv : List (Int × Value)} (h : MapIs w M kv) {row : Option Nat} (hg : w.grownBy w' row) (hne : row ≠ some M) : MapIs w' M kv := by
  obtain ⟨es, clock, hb, hes⟩ := h.ex
  exact ⟨⟨es, clock, (hg.block M (Array.getElem?_eq_some_iff.1 hb).1 (fun e => hne e.symm)).trans hb, hes⟩, h.wf⟩
theorem MapIs.alloc {w : World} {M : Nat} {kv : List (Int × Value)} (h : MapIs w M kv) (o : Obj) : MapIs (w.alloc o) M kv := h.kept (World.grownBy_alloc w o none) (by simp)
theorem MapIs.lt {w : World} {M : Nat} {kv : List (Int × Value)} (h : MapIs w M kv) : M < w.heap.size := by
  obtain ⟨es, clock, hb, _⟩ := h.ex
  exact (Array.getElem?_eq_some_iff.1 hb).1
theorem MapIs.same {w w' : World} {M : Nat} {kv : List (Int × Value)} (h : MapIs w M kv) (hw : w'.heap[M]? = w.heap[M]?) : MapIs w' M kv := by
  obtain ⟨es, clock, hb, hes⟩ := h.ex
  exact ⟨⟨es, clock, hw.trans hb, hes⟩, h.wf⟩
theorem map_made (w : World) : MapIs (w.alloc (.map #[] 0)) w.heap.size [] := ⟨⟨#[], 0, heap_alloc_new w _, rfl⟩, fun x hx => by cases hx⟩
theorem MapIs.look {w : World} {M : Nat} {kv : List (Int × Value)} (h : MapIs w M kv) (hp : kv.Pairwise (fun a b => a.1 ≠ b.1)) {k : Int} {v : Value} (hm : (k, v) ∈ kv) :
    (Instr.lookup 29 (.map (some M)) (.int .u64 k) false).run Yba.prog w = .ok v w := by
  obtain ⟨es, clock, hb, hes⟩ := h.ex
  have hk := map_keys hes
  have hkw := h.wf _ hm
  have hkeys : ∀ e ∈ es.toList, ∃ l, keyOf Yba.prog 24 e.key = some l := fun e he => by
    obtain ⟨x, hx, hxe, _⟩ := hk e he
    have := h.wf x hx
    rw [hxe]; exact ⟨_, key_ok this.1 this.2⟩
  rcases keyed.find w (key_ok hkw.1 hkw.2) es.toList hkeys with ⟨_, f2⟩ | ⟨j, e0, f1, f2, f3⟩
  · have : (Value.int .u64 k, v) ∈ es.toList.map (fun e => (e.key, e.val)) := by rw [hes]; exact List.mem_map.2 ⟨(k, v), hm, rfl⟩
    obtain ⟨e, he, hee⟩ := List.mem_map.1 this
    simp only [Prod.mk.injEq] at hee
    exact absurd hee.1 (f2 e he)
  · obtain ⟨x, hx, hxe, hxv⟩ := hk e0 (List.mem_of_getElem? f2)
    rw [f3] at hxe
    simp at hxe
    have hxeq : x = (k, v) := pair_one hp hx hm hxe.symm
    have hv : e0.val = v := by rw [hxv, hxeq]
    simp [Instr.lookup, run_underlying Yba.underlying29, MapKept.run_getObj_map hb, keyed.check w _ (key_ok hkw.1 hkw.2), f1, hv, Result.andThen]
end Go.Proofs.Ybulkbdju
