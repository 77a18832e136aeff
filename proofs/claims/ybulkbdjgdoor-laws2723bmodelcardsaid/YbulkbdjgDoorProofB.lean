/- The row of LawS2723BModel proved, and its tied card. -/
import Derived.Test.YbulkbdjgDoorLawB
import Derived.Test.YbulkbdjgDoorCards
import Derived.Test.YbulkbdjgDoorTie
import Derived.ProofKit
import Derived.OpenShut
import Derived.ChangeOld
import Derived.LaidMore
import Derived.Lib.LaidTab
import Derived.Deep.SlicePairs
import Derived.Stop.Joined
import Derived.SevenTiedAt
namespace Go.Proofs.YbulkbdjgDoor
open Go.ChangeShapes Go.WideShapes Go.ChangeAt Go.RowKit

theorem ownB : ownKnob Ybad.prog.godebug = none := by kernel_rfl
theorem laidOutOk : laidOutB Ybad.prog = true := by kernel_rfl
theorem gTab64 : Ybad.prog.globalNamed (Rows.lawS2723BModelRow.named.getD 1 "") = some 2 := by kernel_rfl
theorem tTab64 : (Ybad.prog.globals[2]?).map (·.type) = some 135 := by kernel_rfl
theorem cellsTab : Ybad.prog.cellsOf 135 = 64 := by kernel_rfl
theorem cells5 : Ybad.prog.cellsOf 5 = 1 := by kernel_rfl
theorem cells3 : Ybad.prog.cellsOf 3 = 1 := by kernel_rfl
theorem cells41 : Ybad.prog.cellsOf 41 = 2 := by kernel_rfl

def laidB : List (String × DataW Unit) := Rows.lawS2723BModelRow.laid
def tab64 : List Int := [0, 1, 56, 2, 57, 49, 28, 3, 61, 58, 42, 50, 38, 29, 17, 4, 62, 47, 59, 36, 45, 43, 51, 22, 53, 39, 33, 30, 24, 18, 12, 5, 63, 55, 48, 27, 60, 41, 37, 16, 46, 35, 44, 21, 52, 32, 23, 11, 54, 26, 40, 15, 34, 20, 31, 10, 25, 14, 19, 9, 13, 8, 7, 6]
theorem tab64_is {H : Type} : (Rows.laid_math_bits_deBruijn64tab : DataW H) = Lib.tabData .u8 tab64 := rfl

/-- The door's own heap meets the condition. -/
theorem door_metB (os : Os) (args : Array Value) : laidMetH Ybad.prog laidB ((World.doorLaid Ybad.prog 400 os).forCall (fun _ _ => 0) ⟨#[], args, []⟩).memory :=
  laidMetH_of_parts3 (fuel := 8) (laidMet_of_run' 8 (by kernel_rfl) (by kernel_rfl)) (by kernel_rfl) (by kernel_rfl)

/-- What the condition gives the walk: the table's last cell. -/
theorem cell_of_laid {W : World} (h : laidMetH Ybad.prog laidB W) : W.cell? ⟨2, 63, none⟩ = some (.int .u8 6) := by
  rw [MakeChecks.laidMetH_plain _ _ _ (by kernel_rfl)] at h
  obtain ⟨ps, ⟨g0, t0, cs0, f0, p0, q0, hg0, ht0, hv0, hd0, ⟨g1, t1, cs1, f1, p1, q1, hg1, ht1, hv1, hd1, _, _⟩, _⟩, _, _⟩ := h
  obtain rfl := Option.some.inj (gTab64.symm.trans hg1)
  obtain rfl := Option.some.inj (tTab64.symm.trans ht1)
  rw [tab64_is] at hd1
  have hcs := Lib.cells_of_tab Ybad.underlying135 Ybad.underlying5 cells5 cellsTab hd1
  have := World.var?_cell hg1 hv1 63
  rw [this, ← Array.getElem?_toList, hcs]
  rfl

set_option maxRecDepth 100000 in
theorem liftedB (os : Os) (started : os.Started) (H : Type) (enc : TypeId × Value → H) :
    ReturnsInHanded {} Ybad.checked os 4 .any (fun w args => (Rows.lawS2723BModelSpec.pre enc Ybad.prog Ybad.f4 [] false w args ∧ laidMetH Ybad.prog laidB w) ∧ sizedMet enc Ybad.prog Ybad.f4 (OpenSpec.ofChange Rows.lawS2723BModelSpec) false w args)
      (Rows.lawS2723BModelSpec.post enc Ybad.prog Ybad.f4 false true false false) := by
  refine returnsInHanded_of_change_and (C := Ybad.checked) (X := fun w _ => laidMetH Ybad.prog laidB w) (fun _ _ _ hh h => h.of_heap hh) ownB started (by kernel_rfl) Ybad.func4
    (ChangeSpec.witness_shaped (enc := enc) (C := Ybad.checked) (os := os) (X := fun w _ => laidMetH Ybad.prog laidB w) false (World.doorLaid Ybad.prog 400 os) #[.slice none 0 0, .int .u8 0, .int .u8 0, .int .u8 0, .int .i64 0] 8 rfl (World.shaped_of_RefB (by kernel_rfl) (by kernel_rfl)) (by kernel_rfl) (by kernel_rfl) (by kernel_rfl) (door_metB os _)) ?_
  intro W base args ds gs before hval0 hW _ _ hL _
  have hval : ∀ (j : Nat) t v, Ybad.f4.params[j]? = some t → args[j]? = some v → Value.okWide Ybad.prog W .any base t v := hval0
  have hW' := hW
  obtain ⟨p, q, hA0, hV, rfl, hfz, hnd⟩ := hW
  have hA : DataW.TrodAll enc Ybad.prog W 0 (fun _ => true) true Ybad.f4.params.toList args.toList ds p := hA0
  rw [Ybad.params4] at hA hval
  obtain ⟨v0, vs0, d0, ds0, p0, q0, hargs, rfl, rfl, h0, r0⟩ := trodAll_cons hA
  obtain ⟨v1, vs1, d1, ds1, p1, q1, rfl, rfl, rfl, h1, r1⟩ := trodAll_cons r0
  obtain ⟨v2, vs2, d2, ds2, p2, q2, rfl, rfl, rfl, h2, r2⟩ := trodAll_cons r1
  obtain ⟨v3, vs3, d3, ds3, p3, q3, rfl, rfl, rfl, h3, r3⟩ := trodAll_cons r2
  obtain ⟨v4, vs4, d4, ds4, p4, q4, rfl, rfl, rfl, h4, r4⟩ := trodAll_cons r3
  obtain ⟨rfl, rfl, rfl⟩ := trodAll_nil r4
  obtain rfl : args = #[v0, v1, v2, v3, v4] := by cases args; simp_all
  obtain ⟨rfl, rfl⟩ := trodVars_none hV
  obtain ⟨ao, len, cap, rfl⟩ := okWide_slice Ybad.underlying37 (hval 0 37 v0 rfl rfl)
  have k0 := h0
  have lt0 : ∀ x ∈ p0, x.block < W.heap.size := by obtain ⟨m, hm⟩ := k0; exact DataW.trod_lt m _ _ _ hm
  obtain ⟨md, rfl, rfl, rfl, wm⟩ := open_int Ybad.underlying5 (hval 1 5 v1 rfl rfl) h1
  obtain ⟨pd, rfl, rfl, rfl, wp⟩ := open_int Ybad.underlying5 (hval 2 5 v2 rfl rfl) h2
  obtain ⟨la, rfl, rfl, rfl, wl⟩ := open_int Ybad.underlying5 (hval 3 5 v3 rfl rfl) h3
  obtain ⟨ln, rfl, rfl, rfl, wn⟩ := open_int Ybad.underlying3 (hval 4 3 v4 rfl rfl) h4
  have bm := bounds_u8 wm
  have bp := bounds_u8 wp
  have bl := bounds_u8 wl
  have hcell := cell_of_laid hL
  have h2B : 2 < W.heap.size := World.block_lt_of_cell? _ _ hcell
  clear hA0 hval0
  have walk : Calls Ybad.prog 4 #[.slice ao len cap, .int .u8 md, .int .u8 pd, .int .u8 la, .int .i64 ln] W fun e w' => e = .returned (.bool true) ∧ Below W.heap.size W w' := by
    by_cases hlong : 1024 < len
    · exact law_long ao len cap md pd la ln W hlong
    · obtain ⟨fuel, hf⟩ := h0
      rcases Deep.open_slice_pairs Ybad.underlying37 Ybad.underlying41 cells41 rfl rfl cells5 cells3 hf with ⟨hcs, _⟩ | ⟨a, len', cap', m, n, V0, V1, D0, D1, P0, P1, hcs, _, hl, _, hmm, _, hx⟩
      · simp [Value.cells] at hcs
        obtain ⟨rfl, rfl, rfl⟩ := hcs
        exact law_any none 0 0 0 0 (fun _ => (0, 0)) md pd la ln W (by omega) (by omega) (by omega) (by omega) (by omega) (by omega) (by omega) (by omega) (by omega) (by omega) h2B hcell
      · simp [Value.cells] at hcs
        obtain ⟨rfl, rfl, rfl⟩ := hcs
        have hlm : len ≤ m := by rw [hmm]; split <;> omega
        by_cases hl0 : len = 0
        · subst hl0
          exact law_any (some a) 0 0 0 cap (fun _ => (0, 0)) md pd la ln W (by omega) (by omega) (by omega) (by omega) (by omega) (by omega) (by omega) (by omega) (by omega) (by omega) h2B hcell
        · obtain ⟨b, off, spot⟩ := a
          have hspot : spot = none := by simpa [Addr.add] using World.cell?_spot (hx 0 (by omega)).1
          subst hspot
          have each : ∀ i, i < len → ∃ c : Int × Int, W.cell? ⟨b, off + i * 2, none⟩ = some (.int .u8 c.1) ∧ W.cell? ⟨b, off + i * 2 + 1, none⟩ = some (.int .i64 c.2) ∧ 0 ≤ c.1 ∧ c.1 < 256 := by
            intro i hi
            obtain ⟨c0, c1, t0, t1⟩ := hx i (by omega)
            obtain ⟨x, e0, _, wx⟩ := DataW.trod_int Ybad.underlying5 t0
            obtain ⟨y, e1, _, _⟩ := DataW.trod_int Ybad.underlying3 t1
            simp at e0 e1
            have bx := bounds_u8 wx
            rw [Addr.add_lit, e0] at c0
            rw [Addr.add_lit, e1] at c1
            exact ⟨(x, y), c0, by rw [← c1, Nat.add_assoc], by omega, by omega⟩
          obtain ⟨cs, hcs⟩ := Deep.choose_lt each
          have hb : b < W.heap.size := World.block_lt_of_cell? _ _ (hcs 0 (by omega)).1
          exact law_any (some ⟨b, off, none⟩) b off len cap cs md pd la ln W hb hl (fun _ => rfl) (by omega) (fun j hj => (hcs j hj).1) (fun j hj => (hcs j hj).2.1) (fun j hj => (hcs j hj).2.2) (by omega) (by omega) (by omega) h2B hcell
  refine walk.mono fun e W' ⟨he, bel⟩ => ?_
  subst he
  exact ⟨_, rfl, _, _, _, [], _, [], hW', trodAll_mk1 (shut_bool Ybad.underlying4 _), (trodAll_cons_mk (Below.trod laidOutOk (by kernel_rfl) (of_decide_eq_true (by kernel_rfl)) k0 bel lt0) (trodAll_cons_mk (shut_int Ybad.underlying5 wm) (trodAll_cons_mk (shut_int Ybad.underlying5 wp) (trodAll_cons_mk (shut_int Ybad.underlying5 wl) (trodAll_cons_mk (shut_int Ybad.underlying3 wn) trodAll_mk0))))), rfl, bel.frame _, fun h => by cases h⟩

theorem rowB_holds : Rows.LawS2723BModelSaid :=
  OpenClaim.holds_of_wide 4 Ybad.f4 rfl rfl rfl rfl rfl rfl rfl ⟨rfl, rfl, rfl, rfl, rfl⟩ rfl rfl rfl rfl rfl (by kernel_rfl) Ybad.func4 (by kernel_rfl)
    (of_decide_eq_true (by kernel_rfl)) (by unfold Func.isWrapper; rw [if_neg (of_decide_eq_false (by kernel_rfl))]; exact ⟨rfl, rfl⟩)
    (fun os started H enc _ => liftedB os started H enc)

/-- The tied card of LawS2723BModel. -/
theorem cardB_holds : Rows.LawS2723BModelCardSaid :=
  Claim7.holds_tied_plain_at .later [] [.data, .data] true (true, "9f54ca209c53dbaa62bde78cf8c4412f6d217ddcf603a6d490e213a017cbdae1") true
    rowB_holds (fun _ h => by cases h) (by kernel_rfl) (fun _ h => by cases h) lawS2723BModel_row_tie rfl ⟨rfl, rfl⟩ (by kernel_rfl) rfl
    (fun f fn hf hfn => by
      obtain rfl : f = 4 := Option.some.inj ((show Ybad.prog.funcNamed Rows.lawS2723BModelRow.func = some 4 by kernel_rfl).symm.trans hf) |>.symm
      obtain rfl : fn = Ybad.f4 := (Option.some.inj (Ybad.func4.symm.trans hfn)).symm
      exact ⟨by kernel_rfl, fun j t ht => by
        rw [Ybad.params4] at ht
        have hm : t ∈ [37, 5, 5, 5, 3] := by simpa using Array.mem_of_getElem? ht
        have hall : ([37, 5, 5, 5, 3].all fun u => !Ybad.prog.wantsStandIn u) = true := by kernel_rfl
        exact (show Ybad.prog.wantsStandIn t = false by simpa using List.all_eq_true.1 hall t hm)⟩)
    (by kernel_rfl)
end Go.Proofs.YbulkbdjgDoor
