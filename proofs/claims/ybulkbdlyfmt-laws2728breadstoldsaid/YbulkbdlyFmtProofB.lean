/- The told card of LawS2728BReads. -/
import Derived.Test.YbulkbdlyFmtLong
import Derived.Test.YbulkbdlyFmtCards
import Derived.ProofKit
import Derived.OpenShut
import Derived.ChangeOld
import Derived.Below
import Derived.Stop.JoinedAt
import Derived.Stop.JoinedTold
import Derived.SevenToldRow
namespace Go.Proofs.YbulkbdlyFmt
open Go.ChangeShapes Go.WideShapes Go.ChangeAt Go.RowKit Go.Kit
open Go.Extern.Stop Go.Stop Go.Extern

theorem ownB : ownKnob Ybaf.prog.godebug = Option.none := by kernel_rfl
theorem laidOutOk : laidOutB Ybaf.pinned.checked.prog = true := by kernel_rfl
theorem cells5 : Ybaf.prog.cellsOf 5 = 1 := by kernel_rfl
theorem stopsB : Ybaf.pinned.checked.prog.stops = Rows.lawS2728BReadsRow.stops := by kernel_rfl
theorem knobsB : Ybaf.pinned.checked.prog.stopKnobs = [] := by kernel_rfl
theorem quietB (os : Os) : Stop.quiet Ybaf.pinned.checked.prog os := by
  intro k hk
  rw [knobsB] at hk
  cases hk

set_option maxRecDepth 100000 in
set_option maxHeartbeats 400000 in
theorem law_great (ao : Option Addr) (n c : Nat) (pre : Bool) (w : World) (h : 1024 < n) :
    Calls Ybaf.prog 3 #[.slice ao n c, .bool pre] w fun e w' => e = .returned (.bool true) ∧ Below w.heap.size w w' := by
  have lk : decide ((1024 : Int) < (n : Int)) = true := by simp; omega
  go_enter Ybaf.func3, Ybaf.ntmps3
  go_wp2
  go_ret
  exact ⟨rfl, Below.refl _ w⟩

theorem law_any (F : Interp) (ao : Option Addr) (b off n c : Nat) (f : Nat → Int) (pre : Bool) (w : World) (hF : F.answers w.tape) (hn : n ≤ 1024) (z : ao = Option.none → n = 0) (hao : 0 < n → ao = some ⟨b, off, Option.none⟩)
    (hc : ∀ j, j < n → w.cell? ⟨b, off + j, Option.none⟩ = some (.int .u8 (f j))) (hr : ∀ j, j < n → 0 ≤ f j ∧ f j < 256) :
    Calls Ybaf.prog 3 #[.slice ao n c, .bool pre] w fun e w' => e = .returned (.bool true) ∧ Below w.heap.size w w' := by
  cases pre with
  | true => exact law_preset ao b off n c f w hn z hao hc
  | false =>
    by_cases h8 : n < 8
    · exact law_short F ao b off n c f w hF h8 z hao hc
    · obtain rfl := hao (by omega)
      exact law_long b off n c f w hn (by omega) hc hr

set_option maxRecDepth 100000 in
theorem liftedB (os : Os) (started : os.Started) (H : Type) (enc : TypeId × Value → H) :
    ReturnsInTold Option.none {} Ybaf.checked os 3 .any Input.okWide ((OpenSpec.ofChange Rows.lawS2728BReadsSpec).preRow enc Ybaf.prog Ybaf.f3 [] false []) (fun F => ((OpenSpec.ofChange Rows.lawS2728BReadsSpec).at F).post enc Ybaf.prog Ybaf.f3 false true false false) (aloneAtReturn Ybaf.prog) nothingAlways := by
  refine returnsInTold_of_row (C := Ybaf.checked) (s := OpenSpec.ofChange Rows.lawS2728BReadsSpec) (by kernel_rfl) ownB started (by kernel_rfl) Ybaf.func3
    (OpenSpec.witness_stopped (enc := enc) (C := Ybaf.checked) false ⟨#[], #[.slice Option.none 0 0, .bool false], []⟩ 8 (by kernel_rfl) (by kernel_rfl) (by kernel_rfl) (by kernel_rfl)) ?_
  intro F W base args ds gs before _ hF hval0 hW _ _ _ _ _
  have hval : ∀ (j : Nat) t v, Ybaf.f3.params[j]? = some t → args[j]? = some v → Value.okWide Ybaf.prog W .any base t v := hval0
  have hW' := hW
  obtain ⟨p, q, hA0, hV, rfl, hfz, hnd⟩ := hW
  have hA : DataW.TrodAll enc Ybaf.prog W 0 (fun _ => true) true Ybaf.f3.params.toList args.toList ds p := hA0
  rw [Ybaf.params3] at hA hval
  obtain ⟨v0, v1, d0, d1, p0, p1, rfl, rfl, rfl, h0, h1⟩ := trodAll_two hA
  obtain ⟨rfl, rfl⟩ := trodVars_none hV
  obtain ⟨ao, n, c, rfl⟩ := okWide_slice Ybaf.underlying22 (hval 0 22 v0 rfl rfl)
  have k0 := h0
  have lt0 : ∀ x ∈ p0, x.block < W.heap.size := by obtain ⟨m, hm⟩ := k0; exact DataW.trod_lt m _ _ _ hm
  obtain ⟨pre, rfl, rfl, rfl⟩ := open_bool Ybaf.underlying4 (hval 1 4 v1 rfl rfl) h1
  clear hA0 hval0
  have walk : Calls Ybaf.prog 3 #[.slice ao n c, .bool pre] W fun e w' => e = .returned (.bool true) ∧ Below W.heap.size W w' := by
    by_cases hlong : 1024 < n
    · exact law_great ao n c pre W hlong
    · obtain ⟨f0, hf0⟩ := h0
      rcases open_ints Ybaf.underlying22 Ybaf.underlying5 cells5 hf0 with ⟨hcs, _⟩ | ⟨a, len', cap', zs, hcs, _, hl, _, hmm, _, hx, hwf⟩
      · simp [Value.cells] at hcs
        obtain ⟨rfl, rfl, rfl⟩ := hcs
        exact law_any F.told Option.none 0 0 0 0 (fun _ => 0) pre W hF (by omega) (fun _ => rfl) (by omega) (by omega) (by omega)
      · simp [Value.cells] at hcs
        obtain ⟨rfl, rfl, rfl⟩ := hcs
        have hlm : n ≤ zs.length := by rw [hmm]; split <;> omega
        by_cases hl0 : n = 0
        · subst hl0
          exact law_any F.told (some a) 0 0 0 c (fun _ => 0) pre W hF (by omega) (fun _ => rfl) (by omega) (by omega) (by omega)
        · obtain ⟨b, off, spot⟩ := a
          have hspot : spot = Option.none := by simpa [Addr.add] using World.cell?_spot (hx 0 (by omega))
          subst hspot
          refine law_any F.told (some ⟨b, off, Option.none⟩) b off n c (fun j => zs.getD j 0) pre W hF (by omega) (fun h => by cases h) (fun _ => rfl) (fun j hj => by have := hx j (by omega); rw [Addr.add_lit] at this; exact this) (fun j hj => ?_)
          have hj' : j < zs.length := by omega
          have hget : zs.getD j 0 = zs[j] := by simp [List.getD, hj']
          have := bounds_u8 (hwf zs[j] (List.getElem_mem hj'))
          show 0 ≤ zs.getD j 0 ∧ zs.getD j 0 < 256
          rw [hget]
          omega
  refine walk.mono fun e W' ⟨he, bel⟩ => ?_
  subst he
  exact ⟨_, rfl, _, _, _, [], _, [], hW', trodAll_mk1 (shut_bool Ybaf.underlying4 _), trodAll_mk2 (Below.trod laidOutOk (by kernel_rfl) (of_decide_eq_true (by kernel_rfl)) k0 bel lt0) (shut_bool Ybaf.underlying4 _), rfl, bel.frame _, fun h => by cases h⟩

/-- The told card of LawS2728BReads. -/
theorem toldB_holds : Rows.LawS2728BReadsToldSaid :=
  Claim7.holds_of_told_any 3 Ybaf.f3 (Rows.lawS2728BReadsRow.stops.getD 0 "") [] [] _ _ _ (by kernel_rfl) rfl rfl rfl laidOutOk (by kernel_rfl) rfl ⟨rfl, rfl, rfl, rfl, rfl, rfl, rfl⟩ rfl rfl (by kernel_rfl) (by kernel_rfl) Ybaf.func3 (by kernel_rfl)
    (of_decide_eq_true (by kernel_rfl)) (of_decide_eq_true (by kernel_rfl)) stopsB.symm rfl knobsB.symm (by kernel_rfl)
    (by kernel_rfl) (by kernel_rfl) (by kernel_rfl) (by kernel_rfl) (by kernel_rfl) (by kernel_rfl) (by kernel_rfl) (by kernel_rfl) (by kernel_rfl) rfl (by kernel_rfl) rfl rfl
    rfl rfl
    rfl (by kernel_rfl) (by kernel_rfl) (by kernel_rfl) (by decide) (by kernel_rfl)
    (OpenClaim.moreEntering_of (by kernel_rfl) (by kernel_rfl) (by kernel_rfl) (by kernel_rfl) (by kernel_rfl) (by kernel_rfl) (by kernel_rfl) (by kernel_rfl) (by kernel_rfl) (by kernel_rfl))
    ⟨_, WideRow.started_initial, quietB _⟩
    (fun os started _ H enc _ => liftedB os started H enc)
end Go.Proofs.YbulkbdlyFmt
