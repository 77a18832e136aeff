import Derived.Test.YbulkbdjgDoorFailed
import Derived.Deep.DeepCutAuto
import Derived.Deep.CutBlock
namespace Go.Proofs.YbulkbdjgDoor
open Go.RowKit

/-- clamp: a place 0 .. n. -/
theorem clamp_any (a : Int) (n : Nat) (hn : n ≤ 1024) : ∃ p : Nat, p ≤ n ∧ ∀ w, Calls Ybad.prog 5 #[.int .i64 a, .int .i64 n] w fun e w' => e = .returned (.int .i64 (p : Int)) ∧ w' = w := by
  have h0 : 0 ≤ IntKind.u64.wrap a := by rw [IntKind.wrap_u64]; omega
  have h1 := Int.emod_nonneg (IntKind.u64.wrap a) (by omega : (n : Int) + 1 ≠ 0)
  have h2 := Int.emod_lt_of_pos (IntKind.u64.wrap a) (by omega : (0 : Int) < (n : Int) + 1)
  refine ⟨(IntKind.u64.wrap a % ((n : Int) + 1)).toNat, by omega, fun w => ?_⟩
  have e1 : wrap64 ((IntKind.u64.wrap a).tmod ((n : Int) + 1)) = ((IntKind.u64.wrap a % ((n : Int) + 1)).toNat : Int) := by
    rw [Int.tmod_eq_emod_of_nonneg h0]
    simp only [wrap64]
    omega
  have HE := hide e1
  clear e1 h0 h1 h2
  go_enter Ybad.func5, Ybad.ntmps5
  go_wp2
  go_ret
  exact ⟨ret_int HE.out, rfl⟩

theorem dec_new (w : World) (ao : Option Addr) (len cap : Nat) (p : Int) : Dec (w.alloc (.cells #[.string ⟨#[102]⟩, .slice ao len cap, .int .i64 p] 25)) w.heap.size ao len cap p :=
  ⟨by simp, by simp, by simp, fun j => by simp, by simp⟩
theorem ErrIs.alloc {w : World} {E : Nat} {a : Int} {what : ByteArray} (h : ErrIs w E a what) (o : Obj) : ErrIs (w.alloc o) E a what where
  c0 := (World.cell?_alloc_lt _ _ _ h.lt).trans h.c0
  c1 := (World.cell?_alloc_lt _ _ _ h.lt).trans h.c1
  c2 := (World.cell?_alloc_lt _ _ _ h.lt).trans h.c2

/-- Behind a refusal of opID, the id boxed: 'failed' says true. -/
theorem failed_after {w w1 w2 : World} {ao : Option Addr} {len cap : Nat} {q a : Int} {E : Nat} {what : ByteArray} (hw1 : Below w.heap.size w w1) (hE : ErrIs w2 E a what) (hD : Dec w2 w.heap.size ao len cap q) (hB : Below w.heap.size w1 w2)
    (hg : w.cell? ⟨0, 0, none⟩ = some (.iface 122 (.agg #[.pointer (some ⟨3, 30, none⟩)]))) (o : Obj) :
    Calls Ybad.prog 7 #[.agg #[.slice none 0 0, .int .u64 0], .iface 94 (.pointer (some ⟨E, 0, none⟩)), .pointer (some ⟨w.heap.size, 0, none⟩), .int .i64 q, .int .i64 a, .string what] (w2.alloc o) fun e w' => e = .returned (.bool true) ∧ Below w.heap.size w w' := by
  have h0 : 0 < w.heap.size := World.block_lt_of_cell? _ _ hg
  have hb : Below w.heap.size w (w2.alloc o) := (hw1.trans hB).alloc (by have := hD.lt; omega) o
  refine (failed_true w.heap.size ao len cap q a E what (w2.alloc o) (hD.below ((Below.refl _ _).alloc (Nat.le_refl _) o) hD.lt) (hE.alloc o) ((hb.cell (p := ⟨0, 0, none⟩) h0).trans hg)).mono ?_
  rintro e w' ⟨rfl, hb'⟩
  exact ⟨rfl, hb.trans (hb'.mono (by have := hD.lt; simp; omega))⟩
theorem below_new (w : World) (o : Obj) : Below w.heap.size w (w.alloc o) := (Below.refl _ _).alloc (Nat.le_refl _) o

set_option maxRecDepth 100000 in
set_option maxHeartbeats 2000000 in
theorem lawA_end (ao : Option Addr) (len cap : Nat) (a : Int) (w : World) (hlen : len ≤ 1024)
    (hcl : ∀ w, Calls Ybad.prog 5 #[.int .i64 a, .int .i64 len] w fun e w' => e = .returned (.int .i64 (len : Int)) ∧ w' = w) (hg : w.cell? ⟨0, 0, none⟩ = some (.iface 122 (.agg #[.pointer (some ⟨3, 30, none⟩)]))) :
    Calls Ybad.prog 3 #[.slice ao len cap, .int .i64 a] w fun e w' => e = .returned (.bool true) ∧ Below w.heap.size w w' := by
  have HCL := hide hcl
  have HG := hide hg
  have hlen' : decide ((1024 : Int) < len) = false := by simp; omega
  have HOP := hide (op_bad1 w.heap.size ao len cap (len : Int) ((len : Int) + 1) ⟨#[99, 117, 116, 32, 115, 104, 111, 114, 116]⟩ (w.alloc (.cells #[.string ⟨#[102]⟩, .slice ao len cap, .int .i64 (len : Int)] 25)) (dec_new _ _ _ _ _) (site_end _ ao len cap _ ((dec_new _ _ _ _ _).below (below_new _ _) (by simp)) hlen))
  clear hcl hg
  go_enter Ybad.func3, Ybad.ntmps3
  go_wp2_with fail
  refine (HCL.out _).mono ?_
  rintro e w' ⟨rfl, hw'⟩
  subst hw'
  go_wp2_with fail
  refine HOP.out.mono ?_
  rintro e w2 ⟨E, rfl, hE, hDE, hEl, hD2, hB2⟩
  have HF := fun o => hide (failed_after (below_new _ _) hE hD2 hB2 HG.out o)
  clear hE hDE hEl hD2 hB2
  go_wp2_with (go_at_call 7; refine (HF _).out.mono ?_; rintro e w3 ⟨rfl, hb⟩)
  go_ret
  exact ⟨rfl, hb⟩

set_option maxRecDepth 100000 in
set_option maxHeartbeats 2000000 in
theorem lawA_short (b off len cap p n : Nat) (a : Int) (w : World) (hlen : len ≤ 1024) (hp : p < len) (_hcap : len ≤ cap) (hb : b < w.heap.size) (hz : w.cell? ⟨b, off + p, none⟩ = some (.int .u8 n)) (hn : n < 256) (hsh : len - p - 1 < n)
    (hcl : ∀ w, Calls Ybad.prog 5 #[.int .i64 a, .int .i64 len] w fun e w' => e = .returned (.int .i64 (p : Int)) ∧ w' = w) (hg : w.cell? ⟨0, 0, none⟩ = some (.iface 122 (.agg #[.pointer (some ⟨3, 30, none⟩)]))) :
    Calls Ybad.prog 3 #[.slice (some ⟨b, off, none⟩) len cap, .int .i64 a] w fun e w' => e = .returned (.bool true) ∧ Below w.heap.size w w' := by
  have HCL := hide hcl
  have HG := hide hg
  have hlen' : decide ((1024 : Int) < len) = false := by simp; omega
  have e1 : ((p : Int) == len) = false := beq_eq_false_iff_ne.2 (by omega)
  have HOP := hide (op_bad1 w.heap.size (some ⟨b, off, none⟩) len cap (p : Int) ((len : Int) + 1) ⟨#[99, 117, 116, 32, 115, 104, 111, 114, 116]⟩ (w.alloc (.cells #[.string ⟨#[102]⟩, .slice (some ⟨b, off, none⟩) len cap, .int .i64 (p : Int)] 25)) (dec_new _ _ _ _ _) (site_short _ b off len cap p n _ ((dec_new _ _ _ _ _).below (below_new _ _) (by simp)) hlen hp _hcap (((below_new _ _).cell (p := ⟨b, off + p, none⟩) (by simp; omega)).trans (((below_new _ _).cell (p := ⟨b, off + p, none⟩) hb).trans hz)) hn hsh))
  clear hcl hg
  go_enter Ybad.func3, Ybad.ntmps3
  go_wp2_with fail
  refine (HCL.out _).mono ?_
  rintro e w' ⟨rfl, hw'⟩
  subst hw'
  go_wp2_with fail
  refine HOP.out.mono ?_
  rintro e w2 ⟨E, rfl, hE, hDE, hEl, hD2, hB2⟩
  have HF := fun o => hide (failed_after (below_new _ _) hE hD2 hB2 HG.out o)
  have gz : w2.cell? ⟨b, off + p, none⟩ = some (.int .u8 n) := (hB2.cell (p := ⟨b, off + p, none⟩) (by exact hb)).trans (((below_new _ _).cell (p := ⟨b, off + p, none⟩) hb).trans hz)
  have hb2 : b < w2.heap.size := by have := hD2.lt; omega
  clear hE hDE hEl hD2 hB2
  go_wp2_with (go_at_call 7; refine (HF _).out.mono ?_; rintro e w3 ⟨rfl, hb⟩)
  go_ret
  exact ⟨rfl, by assumption⟩

end Go.Proofs.YbulkbdjgDoor
