import Derived.Test.YbulkbdjgDoorRows
import Derived.WalkKit
import Derived.WalkSpells
import Derived.WalkLawsBesides
namespace Go.Proofs.YbulkbdjgDoor
open Go.RowKit

/-- Where lane l is first looked for in a table of 64 slots. -/
def hsh (l : Int) : Int := (l * 11400714819323198485) % 18446744073709551616 / 288230376151711744

theorem ctz_ix : IntKind.u64.wrap (bits BinOp.and IntKind.u64 64 (IntKind.u64.wrap (-64)) * 285870213051353865) / 288230376151711744 = 63 := by decide +kernel

theorem hide {p : Prop} (h : p) : Hid p := h
theorem lt_succ_all {P : Nat → Prop} {k : Nat} (h : ∀ i, i < k → P i) (hk : P k) : ∀ i, i < k + 1 → P i := fun i hi => by
  by_cases e : i = k
  · rw [e]; exact hk
  · exact h i (by omega)
theorem ret_int {k : IntKind} {a b : Int} (h : a = b) : Ending.returned (.int k a) = .returned (.int k b) := by rw [h]
theorem hsh_bd (l : Int) : 0 ≤ hsh l ∧ hsh l < 64 := by unfold hsh; omega
theorem hsh_wrap (l : Int) : wrap64 (IntKind.u64.wrap (l * 11400714819323198485) / 288230376151711744) = hsh l := by
  have h := hsh_bd l
  simp only [wrap64, IntKind.wrap_u64]
  unfold hsh at h ⊢
  omega

set_option maxHeartbeats 400000 in
theorem slot_any (l : Int) (w : World) (h0 : 0 ≤ l) (h1 : l < 80) (ht : w.cell? ⟨2, 63, none⟩ = some (.int .u8 6)) :
    Calls Ybad.prog 8 #[.int .i64 l, .int .i64 64] w fun e w' => e = .returned (.int .i64 (hsh l)) ∧ w' = w := by
  have hix := ctz_ix
  go_enter Ybad.func8, Ybad.ntmps8
  go_wp2
  go_ret
  exact ⟨ret_int (hsh_wrap l), rfl⟩
end Go.Proofs.YbulkbdjgDoor
