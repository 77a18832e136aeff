/- The row of LawS2724CAsks proved. -/
import Derived.Test.YbulkbdjuLaw
import Derived.ProofKit
import Derived.OpenShut
import Derived.ChangeOld
import Derived.Below
import Derived.Deep.Slices
namespace Go.Proofs.Ybulkbdju
open Go.ChangeShapes Go.WideShapes Go.ChangeAt Go.RowKit

theorem ownKnobC : ownKnob Yba.prog.godebug = Option.none := by kernel_rfl
theorem laidOutOk : laidOutB Yba.prog = true := by kernel_rfl
theorem cells3 : Yba.prog.cellsOf 3 = 1 := by kernel_rfl
theorem cells4 : Yba.prog.cellsOf 4 = 1 := by kernel_rfl
theorem cells5 : Yba.prog.cellsOf 5 = 1 := by kernel_rfl
theorem cells24 : Yba.prog.cellsOf 24 = 1 := by kernel_rfl
theorem cells59 : Yba.prog.cellsOf 59 = 1 := by kernel_rfl
theorem cells64 : Yba.prog.cellsOf 64 = 4 := by kernel_rfl

set_option maxRecDepth 100000 in
set_option maxHeartbeats 400000 in
theorem law_long (ao : Option Addr) (n c : Nat) (ba rs ss rd ld : Int) (w : World) (h : 1024 < n) :
    Calls Yba.prog 3 #[.int .u32 ba, .slice ao n c, .int .u8 rs, .int .u8 ss, .int .u64 rd, .int .u8 ld] w fun e w' => e = .returned (.bool true) ∧ Below w.heap.size w w' := by
  have lk : decide ((1024 : Int) < (n : Int)) = true := by simp; omega
  go_enter Yba.func3, Yba.ntmps3
  go_wp2
  go_ret
  exact ⟨rfl, Below.refl _ w⟩

section
variable {H : Type} {enc : TypeId × Value → H} {W : World} {base : Nat} {spare : Nat → Bool} {held : Bool}

/-- A slice of bytes as a string, in every world that keeps what was there. -/
theorem bytes_open {fuel : Nat} {v : Value} {x : DataW H × List MemPlace} (h : DataW.trod enc Yba.prog W base spare held fuel 59 [v] = some x) :
    ∃ sa sl sc, v = .slice sa sl sc ∧ ∃ s, ∀ w', Below W.heap.size W w' → (convert 59 9 (.slice sa sl sc)).run Yba.prog w' = .ok (.string s) w' := by
  rcases open_ints Yba.underlying59 Yba.underlying5 cells5 h with ⟨hcs, _⟩ | ⟨a, len, cap, zs, hcs, _, hl, _, hmm, _, hx, _⟩
  · simp at hcs
    subst hcs
    exact ⟨_, _, _, rfl, _, fun w' _ => run_convert_bytes_nil w' 59 5 Yba.underlying59 Yba.underlying5 0 0 9 Yba.underlying9⟩
  · simp at hcs
    subst hcs
    refine ⟨_, _, _, rfl, ?_⟩
    have hlm : len ≤ zs.length := by rw [hmm]; split <;> omega
    by_cases h0 : len = 0
    · subst h0
      refine ⟨_, fun w' _ => (run_convert_bytes_string w' 59 9 5 (some a) 0 cap Yba.underlying59 Yba.underlying5 Yba.underlying9).trans (run_bytesToString w' a 0 cap [] ?_)⟩
      exact run_loadCells_list (P := Yba.prog) w' a [] (by simp)
    · obtain ⟨b, off, spot⟩ := a
      have hspot : spot = Option.none := by simpa [Addr.add] using World.cell?_spot (hx 0 (by omega))
      subst hspot
      refine ⟨strOfNums (zs.take len), fun w' hb => run_convert_bytes_arg w' 59 5 Yba.underlying59 Yba.underlying5 b off len cap (zs.take len) (by simp; omega) (fun i hi => ?_) 9 Yba.underlying9⟩
      have hc := hx i (by omega)
      rw [Addr.add_lit] at hc
      rw [hb.cell (World.block_lt_of_cell? _ _ hc), hc]
      simp [List.getD, hi]

set_option maxRecDepth 100000 in
/-- One element of the slots. -/
theorem elem_open {n : Nat} {a : Addr} {x : DataW H × List MemPlace} {cs : List Value} (hcs : W.cells? base a 4 = some cs) (ht : DataW.trod enc Yba.prog W base spare held n 64 cs = some x) :
    ∃ s : Slt, W.cell? (a.add 0) = some (.bool s.ch) ∧ W.cell? (a.add 1) = some (.int .u64 s.vt) ∧ W.cell? (a.add 2) = some (.int .i64 s.org) ∧ W.cell? (a.add 3) = some (.slice s.sa s.sl s.sc) ∧ (0 ≤ s.vt ∧ s.vt < 18446744073709551616) ∧
      ∃ t, ∀ w', Below W.heap.size W w' → (convert 59 9 (.slice s.sa s.sl s.sc)).run Yba.prog w' = .ok (.string t) w' := by
  obtain ⟨_, hlen, hcell⟩ := World.cells?_some hcs
  obtain ⟨xs, k, hk, hxy, _, hxl, hf⟩ := DataW.trod_struct Yba.underlying64 ht
  match xs, hxl, cs, hlen with
  | [y0, y1, y2, y3], _, [v0, v1, v2, v3], _ =>
    have g0 := hf 0 _ rfl
    have g1 := hf 1 _ rfl
    have g2 := hf 2 _ rfl
    have g3 := hf 3 _ rfl
    simp [cells4, cells24, cells3, cells59] at g0 g1 g2 g3
    obtain ⟨ch, e0, _⟩ := DataW.trod_bool Yba.underlying4 g0
    obtain ⟨vt, e1, _, wv⟩ := DataW.trod_int Yba.underlying24 g1
    obtain ⟨org, e2, _, _⟩ := DataW.trod_int Yba.underlying3 g2
    obtain ⟨sa, sl, sc, e3, hby⟩ := bytes_open g3
    simp at e0 e1 e2
    subst e0 e1 e2 e3
    have hb : 0 ≤ vt ∧ vt < 18446744073709551616 := by
      have := wv
      simp [Lit.wf, IntKind.min, IntKind.max, IntKind.signed, IntKind.bits] at this
      omega
    exact ⟨⟨ch, vt, org, sa, sl, sc⟩, hcell 0 (by omega), hcell 1 (by omega), hcell 2 (by omega), hcell 3 (by omega), hb, hby⟩

theorem slots_open {fuel : Nat} {ao : Option Addr} {n c : Nat} {x : DataW H × List MemPlace} (h : DataW.trod enc Yba.prog W base spare held fuel 23 [.slice ao n c] = some x) : ∃ bs os f, Slots W ao bs os n f := by
  rcases Deep.open_slice Yba.underlying23 h with ⟨hcs, _⟩ | ⟨a, len, cap, m, k, D, Pl, hcs, _, hl, _, hmm, _, hx⟩
  · simp at hcs
    obtain ⟨rfl, rfl, rfl⟩ := hcs
    exact ⟨0, 0, fun _ => ⟨false, 0, 0, Option.none, 0, 0⟩, by omega, by omega, by omega, by omega, by omega, by omega, by omega⟩
  · simp at hcs
    obtain ⟨rfl, rfl, rfl⟩ := hcs
    have hlm : n ≤ m := by rw [hmm]; split <;> omega
    by_cases h0 : n = 0
    · subst h0
      exact ⟨0, 0, fun _ => ⟨false, 0, 0, Option.none, 0, 0⟩, by omega, by omega, by omega, by omega, by omega, by omega, by omega⟩
    · have each : ∀ i, i < n → ∃ s : Slt, W.cell? (a.add (i * 4)) = some (.bool s.ch) ∧ W.cell? (a.add (i * 4 + 1)) = some (.int .u64 s.vt) ∧ W.cell? (a.add (i * 4 + 2)) = some (.int .i64 s.org) ∧ W.cell? (a.add (i * 4 + 3)) = some (.slice s.sa s.sl s.sc) ∧ (0 ≤ s.vt ∧ s.vt < 18446744073709551616) ∧
          ∃ t, ∀ w', Below W.heap.size W w' → (convert 59 9 (.slice s.sa s.sl s.sc)).run Yba.prog w' = .ok (.string t) w' := by
        intro i hi
        obtain ⟨cs', h1, h2⟩ := hx i (by omega)
        rw [cells64] at h1
        obtain ⟨s, q0, q1, q2, q3, q4, q5⟩ := elem_open h1 h2
        rw [Deep.add_add] at q0 q1 q2 q3
        exact ⟨s, q0, q1, q2, q3, q4, q5⟩
      obtain ⟨b, off, spot⟩ := a
      have hspot : spot = Option.none := by
        obtain ⟨s, q0, _⟩ := each 0 (by omega)
        simpa [Addr.add] using World.cell?_spot q0
      subst hspot
      have inh : Inhabited Slt := ⟨⟨false, 0, 0, Option.none, 0, 0⟩⟩
      obtain ⟨f, hf⟩ := Deep.choose_lt each
      refine ⟨b, off, f, fun _ => rfl, fun j hj => ?_, fun j hj => ?_, fun j hj => ?_, fun j hj => ?_, fun j hj => (hf j hj).2.2.2.2.1, fun j hj => (hf j hj).2.2.2.2.2⟩
      · have := (hf j hj).1; rw [Addr.add_lit] at this; exact this
      · have := (hf j hj).2.1; rw [Addr.add_lit] at this; exact this
      · have := (hf j hj).2.2.1; rw [Addr.add_lit] at this; exact this
      · have := (hf j hj).2.2.2.1; rw [Addr.add_lit] at this; exact this
end

set_option maxRecDepth 100000 in
theorem liftedC (os : Os) (started : os.Started) (H : Type) (enc : TypeId × Value → H) :
    ReturnsInHanded {} Yba.checked os 3 .any (Rows.lawS2724CAsksSpec.pre6 enc Yba.prog Yba.f3 [] false)
      (Rows.lawS2724CAsksSpec.post enc Yba.prog Yba.f3 false true false false) := by
  refine returnsInHanded_of_change (C := Yba.checked) ownKnobC started (by kernel_rfl) Yba.func3
    (ChangeSpec.witness6 (enc := enc) (C := Yba.checked) (os := os) false ⟨#[], #[.int .u32 0, .slice Option.none 0 0, .int .u8 0, .int .u8 0, .int .u64 0, .int .u8 0], []⟩ 8 (by kernel_rfl) (by kernel_rfl) (by kernel_rfl) (by kernel_rfl)) ?_
  intro W base args ds gs before hval0 hW _ _
  have hval : ∀ (j : Nat) t v, Yba.f3.params[j]? = some t → args[j]? = some v → Value.okWide Yba.prog W .any base t v := hval0
  have hW' := hW
  obtain ⟨p, q, hA0, hV, rfl, hfz, hnd⟩ := hW
  have hA : DataW.TrodAll enc Yba.prog W 0 (fun _ => true) true Yba.f3.params.toList args.toList ds p := hA0
  rw [Yba.params3] at hA hval
  obtain ⟨v0, vs0, d0, ds0, p0, q0, hargs, rfl, rfl, h0, r0⟩ := trodAll_cons hA
  obtain ⟨v1, vs1, d1, ds1, p1, q1, rfl, rfl, rfl, h1, r1⟩ := trodAll_cons r0
  obtain ⟨v2, vs2, d2, ds2, p2, q2, rfl, rfl, rfl, h2, r2⟩ := trodAll_cons r1
  obtain ⟨v3, vs3, d3, ds3, p3, q3, rfl, rfl, rfl, h3, r3⟩ := trodAll_cons r2
  obtain ⟨v4, vs4, d4, ds4, p4, q4, rfl, rfl, rfl, h4, r4⟩ := trodAll_cons r3
  obtain ⟨v5, vs5, d5, ds5, p5, q5, rfl, rfl, rfl, h5, r5⟩ := trodAll_cons r4
  obtain ⟨rfl, rfl, rfl⟩ := trodAll_nil r5
  obtain rfl : args = #[v0, v1, v2, v3, v4, v5] := by cases args; simp_all
  obtain ⟨rfl, rfl⟩ := trodVars_none hV
  obtain ⟨ba, rfl, rfl, rfl, wb⟩ := open_int Yba.underlying22 (hval 0 22 v0 rfl rfl) h0
  obtain ⟨ao, n, c, rfl⟩ := okWide_slice Yba.underlying23 (hval 1 23 v1 rfl rfl)
  have k1 := h1
  have lt1 : ∀ x ∈ p1, x.block < W.heap.size := by obtain ⟨m, hm⟩ := k1; exact DataW.trod_lt m _ _ _ hm
  obtain ⟨rs, rfl, rfl, rfl, wr⟩ := open_int Yba.underlying5 (hval 2 5 v2 rfl rfl) h2
  obtain ⟨ss, rfl, rfl, rfl, ws⟩ := open_int Yba.underlying5 (hval 3 5 v3 rfl rfl) h3
  obtain ⟨rd, rfl, rfl, rfl, wd⟩ := open_int Yba.underlying24 (hval 4 24 v4 rfl rfl) h4
  obtain ⟨ld, rfl, rfl, rfl, wl⟩ := open_int Yba.underlying5 (hval 5 5 v5 rfl rfl) h5
  have br := bounds_u8 wr
  have bs := bounds_u8 ws
  have bl := bounds_u8 wl
  have bb : 0 ≤ ba ∧ ba < 4294967296 := by
    have := wb
    simp [Lit.wf, IntKind.min, IntKind.max, IntKind.signed, IntKind.bits] at this
    omega
  clear hA0 hval0
  have walk : Calls Yba.prog 3 #[.int .u32 ba, .slice ao n c, .int .u8 rs, .int .u8 ss, .int .u64 rd, .int .u8 ld] W fun e w' => e = .returned (.bool true) ∧ Below W.heap.size W w' := by
    by_cases hlong : 1024 < n
    · exact law_long ao n c ba rs ss rd ld W hlong
    · obtain ⟨f1, hf1⟩ := h1
      obtain ⟨b, o, f, hS⟩ := slots_open hf1
      exact law_any ao b o n c ba rs ss rd ld f W (by omega) bb.1 bb.2 (by omega) (by omega) (by omega) (by omega) (by omega) (by omega) hS
  refine walk.mono fun e W' ⟨he, bel⟩ => ?_
  subst he
  exact ⟨_, rfl, _, _, _, [], _, [], hW', trodAll_mk1 (shut_bool Yba.underlying4 _), (trodAll_cons_mk (shut_int Yba.underlying22 wb) (trodAll_cons_mk (Below.trod laidOutOk (by kernel_rfl) (of_decide_eq_true (by kernel_rfl)) k1 bel lt1) (trodAll_cons_mk (shut_int Yba.underlying5 wr) (trodAll_cons_mk (shut_int Yba.underlying5 ws) (trodAll_cons_mk (shut_int Yba.underlying24 wd) (trodAll_cons_mk (shut_int Yba.underlying5 wl) trodAll_mk0)))))), rfl, bel.frame _, fun h => by cases h⟩

theorem asksC_holds : Rows.LawS2724CAsksSaid :=
  OpenClaim.holds_of_wide 3 Yba.f3 rfl rfl rfl rfl rfl rfl rfl ⟨rfl, rfl, rfl, rfl, rfl⟩ rfl rfl rfl rfl rfl (by kernel_rfl) Yba.func3 (by kernel_rfl)
    (of_decide_eq_true (by kernel_rfl)) (by unfold Func.isWrapper; rw [if_neg (of_decide_eq_false (by kernel_rfl))]; exact ⟨rfl, rfl⟩)
    (fun os started H enc _ => liftedC os started H enc)
end Go.Proofs.Ybulkbdju
