/- The row of LawS2727AOwn proved. -/
import Derived.Test.YbulkbdlkLaw
import Derived.ProofKit
import Derived.OpenShut
import Derived.ShutString
import Derived.ChangeOld
import Derived.Below
import Derived.SliceStrings
import Derived.SizedLaws
namespace Go.Proofs.Ybulkbdlk
open Go.ChangeShapes Go.WideShapes Go.ChangeAt Go.RowKit

theorem ownKnobA : ownKnob Yba.prog.godebug = Option.none := by kernel_rfl
theorem laidOutOk : laidOutB Yba.prog = true := by kernel_rfl
theorem cells3 : Yba.prog.cellsOf 3 = 1 := by kernel_rfl
theorem cells9 : Yba.prog.cellsOf 9 = 1 := by kernel_rfl

set_option maxRecDepth 100000 in
set_option maxHeartbeats 400000 in
theorem law_long (kk vv : Option Addr) (nk ck nv cv : Nat) (kd : Int) (kn sm : Bool) (w : World) (h : 1024 < nk ∨ 1024 < nv) :
    Calls Yba.prog 3 #[.slice kk nk ck, .slice vv nv cv, .int .u8 kd, .bool kn, .bool sm] w fun e w' => e = .returned (.bool true) ∧ Below w.heap.size w w' := by
  by_cases hk : 1024 < nk
  · have lk : decide ((1024 : Int) < (nk : Int)) = true := by simp; omega
    go_enter Yba.func3, Yba.ntmps3
    go_wp2
    go_ret
    exact ⟨rfl, Below.refl _ w⟩
  · have lk : decide ((1024 : Int) < (nk : Int)) = false := by simp; omega
    have lv : decide ((1024 : Int) < (nv : Int)) = true := by simp; omega
    go_enter Yba.func3, Yba.ntmps3
    go_wp2
    go_ret
    exact ⟨rfl, Below.refl _ w⟩

theorem weightsAll_mem {H : Type} {P : Program} {e : TypeId} : ∀ {ds : List (DataW H)} {d : DataW H} {n : Nat}, d ∈ ds → n ∈ d.weights P e → n ∈ DataW.weightsAll P e ds
  | d0 :: ds, d, n, hd, hn => by
    simp only [DataW.weightsAll, List.mem_append]
    rcases List.mem_cons.1 hd with rfl | hd
    · exact .inl hn
    · exact .inr (weightsAll_mem hd hn)

set_option maxRecDepth 100000 in
theorem liftedA (os : Os) (started : os.Started) (H : Type) (enc : TypeId × Value → H) :
    ReturnsInHanded {} Yba.checked os 3 .any (Rows.lawS2727AOwnSpec.pre6 enc Yba.prog Yba.f3 [] false)
      (Rows.lawS2727AOwnSpec.post enc Yba.prog Yba.f3 false true false false) := by
  refine returnsInHanded_of_change_sized (C := Yba.checked) ownKnobA started (by kernel_rfl) Yba.func3
    (ChangeSpec.witness6 (enc := enc) (C := Yba.checked) (os := os) false ⟨#[], #[.slice Option.none 0 0, .slice Option.none 0 0, .int .u8 0, .bool false, .bool false], []⟩ 8 (by kernel_rfl) (by kernel_rfl) (by kernel_rfl) (by kernel_rfl)) ?_
  intro W base args ds gs before hval0 hW _ hsz _
  have hval : ∀ (j : Nat) t v, Yba.f3.params[j]? = some t → args[j]? = some v → Value.okWide Yba.prog W .any base t v := hval0
  have hW' := hW
  obtain ⟨p, q, hA0, hV, rfl, hfz, hnd⟩ := hW
  have hA : DataW.TrodAll enc Yba.prog W 0 (fun _ => true) true Yba.f3.params.toList args.toList ds p := hA0
  rw [Yba.params3] at hA hval
  obtain ⟨v0, vs0, d0, ds0, p0, q0, hargs, rfl, rfl, h0, r0⟩ := trodAll_cons hA
  obtain ⟨v1, vs1, d1, ds1, p1, q1, rfl, rfl, rfl, h1, r1⟩ := trodAll_cons r0
  obtain ⟨v2, vs2, d2, ds2, p2, q2, rfl, rfl, rfl, h2, r2⟩ := trodAll_cons r1
  obtain ⟨v3, vs3, d3, ds3, p3, q3, rfl, rfl, rfl, h3, r3⟩ := trodAll_cons r2
  obtain ⟨v4, vs4, d4, ds4, p4, q4, rfl, rfl, rfl, h4, r4⟩ := trodAll_cons r3
  obtain ⟨rfl, rfl, rfl⟩ := trodAll_nil r4
  obtain rfl : args = #[v0, v1, v2, v3, v4] := by cases args; simp_all
  obtain ⟨rfl, rfl⟩ := trodVars_none hV
  obtain ⟨ka, nk, ck, rfl⟩ := okWide_slice Yba.underlying22 (hval 0 22 v0 rfl rfl)
  obtain ⟨va, nv, cv, rfl⟩ := okWide_slice Yba.underlying23 (hval 1 23 v1 rfl rfl)
  have k0 := h0
  have lt0 : ∀ x ∈ p0, x.block < W.heap.size := by obtain ⟨m, hm⟩ := k0; exact DataW.trod_lt m _ _ _ hm
  have k1 := h1
  have lt1 : ∀ x ∈ p1, x.block < W.heap.size := by obtain ⟨m, hm⟩ := k1; exact DataW.trod_lt m _ _ _ hm
  obtain ⟨kd, rfl, rfl, rfl, wk⟩ := open_int Yba.underlying5 (hval 2 5 v2 rfl rfl) h2
  obtain ⟨kn, rfl, rfl, rfl⟩ := open_bool Yba.underlying4 (hval 3 4 v3 rfl rfl) h3
  obtain ⟨sm, rfl, rfl, rfl⟩ := open_bool Yba.underlying4 (hval 4 4 v4 rfl rfl) h4
  have bk := bounds_u8 wk
  clear hA0 hval0
  have walk : Calls Yba.prog 3 #[.slice ka nk ck, .slice va nv cv, .int .u8 kd, .bool kn, .bool sm] W fun e w' => e = .returned (.bool true) ∧ Below W.heap.size W w' := by
    by_cases hlong : 1024 < nk ∨ 1024 < nv
    · exact law_long ka va nk ck nv cv kd kn sm W hlong
    · obtain ⟨f0, hf0⟩ := h0
      obtain ⟨f1, hf1⟩ := h1
      have keys : ∃ (b o : Nat) (fk : Nat → Int), (ka = Option.none → nk = 0) ∧ (0 < nk → ka = some ⟨b, o, Option.none⟩) ∧ ∀ j, j < nk → W.cell? ⟨b, o + j, Option.none⟩ = some (.int .i64 (fk j)) := by
        rcases open_ints Yba.underlying22 Yba.underlying3 cells3 hf0 with ⟨hcs, _⟩ | ⟨a, len', cap', zs, hcs, _, hl, _, hmm, _, hx, _⟩
        · simp [Value.cells] at hcs
          obtain ⟨rfl, rfl, rfl⟩ := hcs
          exact ⟨0, 0, fun _ => 0, fun _ => rfl, by omega, by omega⟩
        · simp [Value.cells] at hcs
          obtain ⟨rfl, rfl, rfl⟩ := hcs
          have hlm : nk ≤ zs.length := by rw [hmm]; split <;> omega
          by_cases hl0 : nk = 0
          · subst hl0
            exact ⟨0, 0, fun _ => 0, (fun h => by cases h), by omega, by omega⟩
          · obtain ⟨b, off, spot⟩ := a
            have hspot : spot = Option.none := by simpa [Addr.add] using World.cell?_spot (hx 0 (by omega))
            subst hspot
            exact ⟨b, off, fun j => zs.getD j 0, (fun h => by cases h), (fun _ => rfl), fun j hj => by have := hx j (by omega); rw [Addr.add_lit] at this; exact this⟩
      have vals : ∃ (b o : Nat) (fv : Nat → ByteArray), (va = Option.none → nv = 0) ∧ (0 < nv → va = some ⟨b, o, Option.none⟩) ∧ (∀ j, j < nv → W.cell? ⟨b, o + j, Option.none⟩ = some (.string (fv j))) ∧ ∀ j, j < nv → (fv j).size ≤ 281474976710656 := by
        rcases open_strings Yba.underlying23 Yba.underlying9 cells9 hf1 with ⟨hcs, _⟩ | ⟨a, len', cap', ss, hcs, _, hl, _, hmm, hd, hx, _⟩
        · simp [Value.cells] at hcs
          obtain ⟨rfl, rfl, rfl⟩ := hcs
          exact ⟨0, 0, fun _ => ByteArray.empty, fun _ => rfl, by omega, by omega, by omega⟩
        · simp [Value.cells] at hcs
          obtain ⟨rfl, rfl, rfl⟩ := hcs
          have hlm : nv ≤ ss.length := by rw [hmm]; split <;> omega
          by_cases hl0 : nv = 0
          · subst hl0
            exact ⟨0, 0, fun _ => ByteArray.empty, (fun h => by cases h), by omega, by omega, by omega⟩
          · obtain ⟨b, off, spot⟩ := a
            have hspot : spot = Option.none := by simpa [Addr.add] using World.cell?_spot (hx 0 (by omega))
            subst hspot
            refine ⟨b, off, fun j => ss.getD j ByteArray.empty, (fun h => by cases h), (fun _ => rfl), (fun j hj => by have := hx j (by omega); rw [Addr.add_lit] at this; exact this), fun j hj => ?_⟩
            have hd1 : d1 = .slice (Go.ChangeShapes.strs (ss.take nv)) (Go.ChangeShapes.strs (ss.drop nv)) := (Prod.mk.inj hd).1
            subst hd1
            have e23 : Yba.checked.prog.underlying 23 = some (.slice 9) := Yba.underlying23
            have hj' : j < ss.length := by omega
            have hget : ss.getD j ByteArray.empty = ss[j] := by simp [List.getD, hj']
            have hmem : (DataW.lit (.string ss[j].data.toList) : DataW H) ∈ Go.ChangeShapes.strs (H := H) (ss.take nv) :=
              List.mem_map.2 ⟨ss[j], by rw [List.mem_take_iff_getElem]; exact ⟨j, by omega, rfl⟩, rfl⟩
            have hw : ss[j].data.toList.length ∈ DataW.weights (H := H) Yba.checked.prog 23 (.slice (Go.ChangeShapes.strs (ss.take nv)) (Go.ChangeShapes.strs (ss.drop nv))) := by
              simp only [DataW.weights, e23, List.mem_cons, List.mem_append]
              exact .inr (.inl (weightsAll_mem hmem (by simp [DataW.weights])))
            have := List.all_eq_true.1 hsz _ (DataW.weights_mem_each (j := 1) (t := 23) rfl rfl _ hw)
            have hr := reachBytes_lt
            have h2 : ss[j].data.toList.length = ss[j].size := by rw [Array.length_toList]; rfl
            have h3 : ss[j].size ≤ reachBytes := by rw [← h2]; simpa using this
            show (ss.getD j ByteArray.empty).size ≤ _
            rw [hget]
            omega
      obtain ⟨b0, o0, fk, zk, pk, cellk⟩ := keys
      obtain ⟨b1, o1, fv, zv, pv, cellv, hfv⟩ := vals
      exact law_any ka va b0 o0 nk ck b1 o1 nv cv fk fv kd kn sm W (by omega) (by omega) (by omega) (by omega) zk zv pk pv cellk cellv hfv
  refine walk.mono fun e W' ⟨he, bel⟩ => ?_
  subst he
  exact ⟨_, rfl, _, _, _, [], _, [], hW', trodAll_mk1 (shut_bool Yba.underlying4 _), (trodAll_cons_mk (Below.trod laidOutOk (by kernel_rfl) (of_decide_eq_true (by kernel_rfl)) k0 bel lt0) (trodAll_cons_mk (Below.trod laidOutOk (by kernel_rfl) (of_decide_eq_true (by kernel_rfl)) k1 bel lt1) (trodAll_cons_mk (shut_int Yba.underlying5 wk) (trodAll_cons_mk (shut_bool Yba.underlying4 _) (trodAll_cons_mk (shut_bool Yba.underlying4 _) trodAll_mk0))))), rfl, bel.frame _, fun h => by cases h⟩

theorem ownA_holds : Rows.LawS2727AOwnSaid :=
  OpenClaim.holds_of_wide 3 Yba.f3 rfl rfl rfl rfl rfl rfl rfl ⟨rfl, rfl, rfl, rfl, rfl⟩ rfl rfl rfl rfl rfl (by kernel_rfl) Yba.func3 (by kernel_rfl)
    (of_decide_eq_true (by kernel_rfl)) (by unfold Func.isWrapper; rw [if_neg (of_decide_eq_false (by kernel_rfl))]; exact ⟨rfl, rfl⟩)
    (fun os started H enc _ => liftedA os started H enc)
end Go.Proofs.Ybulkbdlk
