/- The row of LawS2723AModel proved, and its tied card. -/
import Derived.Test.YbulkbdjgDoorLawA3
import Derived.Test.YbulkbdjgDoorCards
import Derived.Test.YbulkbdjgDoorTie
import Derived.ProofKit
import Derived.OpenShut
import Derived.ChangeOld
import Derived.LaidMore
import Derived.LaidHandle
import Derived.Deep.Slices
import Derived.Stop.Joined
import Derived.SevenTiedAt
namespace Go.Proofs.YbulkbdjgDoor
open Go.ChangeShapes Go.WideShapes Go.ChangeAt Go.RowKit

set_option maxRecDepth 100000 in
set_option maxHeartbeats 400000 in
theorem lawA_long (ao : Option Addr) (len cap : Nat) (a : Int) (w : World) (hlen : 1024 < len) :
    Calls Ybad.prog 3 #[.slice ao len cap, .int .i64 a] w fun e w' => e = .returned (.bool true) ∧ Below w.heap.size w w' := by
  have hlen' : decide ((1024 : Int) < len) = true := by simp; omega
  go_enter Ybad.func3, Ybad.ntmps3
  go_wp2
  go_ret
  exact ⟨rfl, Below.refl _ _⟩

/-- The law, for every slice of at most 1024 bytes. -/
theorem lawA_any (ao : Option Addr) (b off len cap : Nat) (y : Nat → Int) (a : Int) (w : World) (hlen : len ≤ 1024) (hcap : len ≤ cap) (hao : 0 < len → ao = some ⟨b, off, none⟩)
    (hc : ∀ j, j < len → w.cell? ⟨b, off + j, none⟩ = some (.int .u8 (y j))) (hr : ∀ j, j < len → 0 ≤ y j ∧ y j < 256)
    (hg : w.cell? ⟨0, 0, none⟩ = some (.iface 122 (.agg #[.pointer (some ⟨3, 30, none⟩)]))) :
    Calls Ybad.prog 3 #[.slice ao len cap, .int .i64 a] w fun e w' => e = .returned (.bool true) ∧ Below w.heap.size w w' := by
  obtain ⟨p, hp, hcl⟩ := clamp_any a len hlen
  by_cases hpl : p = len
  · subst hpl
    exact lawA_end ao p cap a w hlen hcl hg
  · have hlt : p < len := by omega
    obtain rfl := hao (by omega)
    have hb : b < w.heap.size := World.block_lt_of_cell? _ _ (hc p hlt)
    obtain ⟨n, hn⟩ : ∃ n : Nat, y p = n := ⟨(y p).toNat, by have := hr p hlt; omega⟩
    have hn256 : n < 256 := by have := hr p hlt; omega
    have hz := hc p hlt
    rw [hn] at hz
    by_cases hsh : len - p - 1 < n
    · exact lawA_short b off len cap p n a w hlen hlt hcap hb hz hn256 hsh hcl hg
    · have hp2 : p + 1 + n ≤ len := by omega
      have hcz : ∀ j, j < len - (p + 1 + n) → w.cell? ⟨b, off + (p + 1 + n) + j, none⟩ = some (.int .u8 (y (p + 1 + n + j))) := fun j hj => by
        rw [Nat.add_assoc off]; exact hc _ (by omega)
      have hrz : ∀ j, j < len - (p + 1 + n) → 0 ≤ y (p + 1 + n + j) ∧ y (p + 1 + n + j) < 256 := fun j hj => hr _ (by omega)
      have hcs : ∀ i, i < n → w.cell? ⟨b, off + (p + 1) + i, none⟩ = some (.int .u8 (y (p + 1 + i))) := fun i hi => by
        rw [Nat.add_assoc off]; exact hc _ (by omega)
      obtain ⟨k, hS⟩ := stops_ex (fun j => y (p + 1 + n + j)) (len - (p + 1 + n))
      have hle := hS.le
      by_cases k0 : kd (fun j => y (p + 1 + n + j)) (len - (p + 1 + n)) k = 0
      · exact lawA_nend b off len cap p n k (fun j => y (p + 1 + n + j)) a w hlen hp2 hcap hb hz hn256 hcz hrz hS k0 hcl hg
      · by_cases k2 : kd (fun j => y (p + 1 + n + j)) (len - (p + 1 + n)) k = 2
        · exact lawA_nover b off len cap p n k (fun j => y (p + 1 + n + j)) a w hlen hp2 hcap hb hz hn256 hcz hrz hS k2 hcl hg
        · have k1 : kd (fun j => y (p + 1 + n + j)) (len - (p + 1 + n)) k = 1 := by
            unfold kd at k0 k2 ⊢
            split at k0
            · exact absurd rfl k0
            · rename_i h1
              rw [if_neg h1] at k2 ⊢
              split at k2
              · exact absurd rfl k2
              · rename_i h2
                rw [if_neg h2]
                split at k2
                · exact absurd rfl k2
                · rename_i h3; rw [if_neg h3]
          have hkl : k < len - (p + 1 + n) := by
            have : k ≠ len - (p + 1 + n) := fun e => k0 (by unfold kd; rw [if_pos e])
            omega
          by_cases hk0 : k = 0
          · exact lawA_none b off len cap p n k (fun j => y (p + 1 + n + j)) a w hlen hp2 hcap hb hz hn256 hcz hrz hS (fun i => y (p + 1 + i)) hcs k1 hk0 hkl hcl hg
          · by_cases hz0 : y (p + 1 + n + k) = 0
            · exact lawA_nlong b off len cap p n k (fun j => y (p + 1 + n + j)) a w hlen hp2 hcap hb hz hn256 hcz hrz hS k1 (by omega) hz0 hkl hcl hg
            · exact lawA_nok b off len cap p n k (fun j => y (p + 1 + n + j)) a w hlen hp2 hcap hb hz hn256 hcz hrz hS (fun i => y (p + 1 + i)) hcs k1 (by omega) hz0 hkl hcl hg

theorem ownA : ownKnob Ybad.prog.godebug = none := by kernel_rfl
theorem laidOutA : laidOutB Ybad.prog = true := by kernel_rfl
theorem gErr : Ybad.prog.globalNamed (Rows.lawS2723AModelRow.named.getD 0 "") = some 0 := by kernel_rfl
theorem oneRowA : ((List.range 207).filter fun t => Ybad.prog.rowNamed t [101, 114, 114, 111, 114]) = [30] := by kernel_rfl
theorem sizeA : Ybad.prog.types.size = 207 := by kernel_rfl
theorem cellsA5 : Ybad.prog.cellsOf 5 = 1 := by kernel_rfl

/-- What the condition gives the walk: the variable's one cell. -/
theorem handle_of_laid {W : World} (h : laidMetH Ybad.prog Rows.lawS2723AModelRow.laid W) : W.cell? ⟨0, 0, none⟩ = some (.iface 122 (.agg #[.pointer (some ⟨3, 30, none⟩)])) := by
  have h' : laidMet Ybad.prog [] W ∧ handlesMet Ybad.prog Rows.lawS2723AModelRow.laid W := h
  obtain ⟨name, u, ty, e1, e2, e3, e4, e5⟩ := h'.2 _ (List.mem_singleton.2 rfl)
  have en : name = [101, 114, 114, 111, 114] := (Option.some.inj e1).symm
  subst en
  obtain rfl : u = 122 := Option.some.inj (e2.symm.trans (by kernel_rfl))
  have hm : ty ∈ (List.range 207).filter fun t => Ybad.prog.rowNamed t [101, 114, 114, 111, 114] := List.mem_filter.2 ⟨List.mem_range.2 (by rw [← sizeA]; exact e3), e4⟩
  rw [oneRowA] at hm
  obtain rfl := List.mem_singleton.1 hm
  have hh : typeHandle Ybad.prog 30 = .pointer (some ⟨3, 30, none⟩) := by kernel_rfl
  rw [hh] at e5
  simpa using World.var?_cell gErr e5 0

theorem door_metA (os : Os) (args : Array Value) : laidMetH Ybad.prog Rows.lawS2723AModelRow.laid ((World.doorLaid Ybad.prog 400 os).forCall (fun _ _ => 0) ⟨#[], args, []⟩).memory :=
  laidMetH_of_parts (laidMet_nil _ _) (by kernel_rfl)

set_option maxRecDepth 100000 in
theorem liftedA (os : Os) (started : os.Started) (H : Type) (enc : TypeId × Value → H) :
    ReturnsInHanded {} Ybad.checked os 3 .any (fun w args => (Rows.lawS2723AModelSpec.pre enc Ybad.prog Ybad.f3 [] false w args ∧ laidMetH Ybad.prog Rows.lawS2723AModelRow.laid w) ∧ sizedMet enc Ybad.prog Ybad.f3 (OpenSpec.ofChange Rows.lawS2723AModelSpec) false w args)
      (Rows.lawS2723AModelSpec.post enc Ybad.prog Ybad.f3 false true false false) := by
  refine returnsInHanded_of_change_and (C := Ybad.checked) (X := fun w _ => laidMetH Ybad.prog Rows.lawS2723AModelRow.laid w) (fun _ _ _ hh h => h.of_heap hh) ownA started (by kernel_rfl) Ybad.func3
    (ChangeSpec.witness_shaped (enc := enc) (C := Ybad.checked) (os := os) (X := fun w _ => laidMetH Ybad.prog Rows.lawS2723AModelRow.laid w) false (World.doorLaid Ybad.prog 400 os) #[.slice none 0 0, .int .i64 0] 8 rfl (World.shaped_of_RefB (by kernel_rfl) (by kernel_rfl)) (by kernel_rfl) (by kernel_rfl) (by kernel_rfl) (door_metA os _)) ?_
  intro W base args ds gs before hval0 hW _ _ hL _
  have hval : ∀ (j : Nat) t v, Ybad.f3.params[j]? = some t → args[j]? = some v → Value.okWide Ybad.prog W .any base t v := hval0
  have hW' := hW
  obtain ⟨p, q, hA0, hV, rfl, hfz, hnd⟩ := hW
  have hA : DataW.TrodAll enc Ybad.prog W 0 (fun _ => true) true Ybad.f3.params.toList args.toList ds p := hA0
  rw [Ybad.params3] at hA hval
  obtain ⟨v0, vs0, d0, ds0, p0, q0, hargs, rfl, rfl, h0, r0⟩ := trodAll_cons hA
  obtain ⟨v1, vs1, d1, ds1, p1, q1, rfl, rfl, rfl, h1, r1⟩ := trodAll_cons r0
  obtain ⟨rfl, rfl, rfl⟩ := trodAll_nil r1
  obtain rfl : args = #[v0, v1] := by cases args; simp_all
  obtain ⟨rfl, rfl⟩ := trodVars_none hV
  obtain ⟨ao, len, cap, rfl⟩ := okWide_slice Ybad.underlying22 (hval 0 22 v0 rfl rfl)
  have k0 := h0
  have lt0 : ∀ x ∈ p0, x.block < W.heap.size := by obtain ⟨m, hm⟩ := k0; exact DataW.trod_lt m _ _ _ hm
  obtain ⟨a, rfl, rfl, rfl, wa⟩ := open_int Ybad.underlying3 (hval 1 3 v1 rfl rfl) h1
  have hg := handle_of_laid hL
  clear hA0 hval0
  have walk : Calls Ybad.prog 3 #[.slice ao len cap, .int .i64 a] W fun e w' => e = .returned (.bool true) ∧ Below W.heap.size W w' := by
    by_cases hlong : 1024 < len
    · exact lawA_long ao len cap a W hlong
    · obtain ⟨fuel, hf⟩ := h0
      rcases open_ints Ybad.underlying22 Ybad.underlying5 cellsA5 hf with ⟨hcs, _⟩ | ⟨x, l, c, zs, hcs, _, hl, hm, hz, _, hcell, hwz⟩
      · simp [Value.cells] at hcs
        obtain ⟨rfl, rfl, rfl⟩ := hcs
        exact lawA_any none 0 0 0 0 (fun _ => 0) a W (by omega) (by omega) (by omega) (by omega) (by omega) hg
      · simp [Value.cells] at hcs
        obtain ⟨rfl, rfl, rfl⟩ := hcs
        by_cases hl0 : len = 0
        · subst hl0
          exact lawA_any (some x) 0 0 0 cap (fun _ => 0) a W (by omega) (by omega) (by omega) (by omega) (by omega) hg
        · have hzl : len ≤ zs.length := by simp at hz; omega
          obtain ⟨b, off, spot⟩ := x
          have hspot : spot = none := by simpa [Addr.add] using World.cell?_spot (hcell 0 (by omega))
          subst hspot
          refine lawA_any (some ⟨b, off, none⟩) b off len cap (fun j => zs.getD j 0) a W (by omega) hl (fun _ => rfl) (fun j hj => ?_) (fun j hj => ?_) hg
          · have := hcell j (by omega)
            rw [Addr.add_lit] at this; exact this
          · have hmem : zs.getD j 0 ∈ zs := by
              rw [List.getD_eq_getElem?_getD, List.getElem?_eq_getElem (by omega)]; exact List.getElem_mem _
            have := bounds_u8 (hwz _ hmem)
            omega
  refine walk.mono fun e W' ⟨he, bel⟩ => ?_
  subst he
  exact ⟨_, rfl, _, _, _, [], _, [], hW', trodAll_mk1 (shut_bool Ybad.underlying4 _), (trodAll_cons_mk (Below.trod laidOutA (by kernel_rfl) (of_decide_eq_true (by kernel_rfl)) k0 bel lt0) (trodAll_cons_mk (shut_int Ybad.underlying3 wa) trodAll_mk0)), rfl, bel.frame _, fun h => by cases h⟩

theorem rowA_holds : Rows.LawS2723AModelSaid :=
  OpenClaim.holds_of_wide 3 Ybad.f3 rfl rfl rfl rfl rfl rfl rfl ⟨rfl, rfl, rfl, rfl, rfl⟩ rfl rfl rfl rfl rfl (by kernel_rfl) Ybad.func3 (by kernel_rfl)
    (of_decide_eq_true (by kernel_rfl)) (by unfold Func.isWrapper; rw [if_neg (of_decide_eq_false (by kernel_rfl))]; exact ⟨rfl, rfl⟩)
    (fun os started H enc _ => liftedA os started H enc)

/-- The tied card of LawS2723AModel. -/
theorem cardA_holds : Rows.LawS2723AModelCardSaid :=
  Claim7.holds_tied_plain_at .later [] [.handle] true (true, "9f54ca209c53dbaa62bde78cf8c4412f6d217ddcf603a6d490e213a017cbdae1") true
    rowA_holds (fun _ h => by cases h) (by kernel_rfl) (fun _ h => by cases h) lawS2723AModel_row_tie rfl ⟨rfl, rfl⟩ (by kernel_rfl) rfl
    (fun f fn hf hfn => by
      obtain rfl : f = 3 := Option.some.inj ((show Ybad.prog.funcNamed Rows.lawS2723AModelRow.func = some 3 by kernel_rfl).symm.trans hf) |>.symm
      obtain rfl : fn = Ybad.f3 := (Option.some.inj (Ybad.func3.symm.trans hfn)).symm
      exact ⟨by kernel_rfl, fun j t ht => by
        rw [Ybad.params3] at ht
        have hm : t ∈ [22, 3] := by simpa using Array.mem_of_getElem? ht
        have hall : ([22, 3].all fun u => !Ybad.prog.wantsStandIn u) = true := by kernel_rfl
        exact (show Ybad.prog.wantsStandIn t = false by simpa using List.all_eq_true.1 hall t hm)⟩)
    (by kernel_rfl)
end Go.Proofs.YbulkbdjgDoor
