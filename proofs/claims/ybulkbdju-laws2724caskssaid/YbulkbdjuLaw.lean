/- LawS2724CAsks, walked. -/
import Derived.Test.YbulkbdjuPlain
import Derived.Deep.CutRange
import Derived.Deep.DeepCutAuto
import Derived.Deep.CutBlock
namespace Go.Proofs.Ybulkbdju
open Go.RowKit

set_option maxRecDepth 100000 in
set_option maxHeartbeats 8000000 in
theorem law_any (ao : Option Addr) (bs os n c : Nat) (ba rs ss rd ld : Int) (f : Nat → Slt) (w : World) (hn : n ≤ 1024) (hb0 : 0 ≤ ba) (hb1 : ba < 4294967296) (hr0 : 0 ≤ rs) (hr1 : rs < 256) (hs0 : 0 ≤ ss) (hs1 : ss < 256) (hl0 : 0 ≤ ld) (hl1 : ld < 256) (hsl : Slots w ao bs os n f) :
    Calls Yba.prog 3 #[.int .u32 ba, .slice ao n c, .int .u8 rs, .int .u8 ss, .int .u64 rd, .int .u8 ld] w fun e w' => e = .returned (.bool true) ∧ Below w.heap.size w w' := by
  have ln : decide ((1024 : Int) < (n : Int)) = false := by simp; omega
  obtain ⟨r, hr⟩ : ∃ r : Int, rs % 70 = r := ⟨_, rfl⟩
  obtain ⟨self, hself⟩ : ∃ r : Int, ss % 70 = r := ⟨_, rfl⟩
  obtain ⟨rep, hrep⟩ : ∃ r : Int, ld % 64 = r := ⟨_, rfl⟩
  have hr7 : 0 ≤ r ∧ r < 70 := by omega
  have hse7 : 0 ≤ self ∧ self < 70 := by omega
  have hmk := mk29 w
  obtain ⟨cfg, nc, h28, h57, hnc⟩ := node_parts w.heap.size ba (ba + 1 + n) rd rep self
  have n12 := hnc.2.1
  replace hsl := hide hsl
  replace h28 := hide h28
  replace h57 := hide h57
  replace hnc := hide hnc
  go_enter Yba.func3, Yba.ntmps3
  go_upto_if 28 with fail
  go_wp2_with (first
    | (refine wpList_val rfl (some 44) rfl (op_build 28 _ rfl _ (by kernel_rfl) h28.out) ?_)
    | (refine wpList_val rfl (some 53) rfl (op_build 57 _ rfl _ (by kernel_rfl) h57.out) ?_))
  clear hmk h28 h57
  obtain ⟨w4, hw4⟩ : ∃ w4, w4 = (((w.alloc (Obj.map #[] 0)).alloc (Obj.cells nc 57)).alloc (Obj.cells #[Value.int IntKind.u8 1] 5)).alloc (Obj.cells #[Value.int IntKind.u64 0, Value.int IntKind.i64 0, Value.slice (some { block := w.heap.size + 1 + 1, off := 0 }) 1 1, Value.bool false, Value.bool false, Value.int IntKind.i64 0, Value.int IntKind.u64 0, Value.int IntKind.i64 0, Value.int IntKind.u64 0, Value.slice none 0 0, Value.int IntKind.u64 0, Value.int IntKind.u64 0] 62) := ⟨_, rfl⟩
  rw [← hw4]
  have hM4 : MapIs w4 w.heap.size [] := by rw [hw4]; exact (((map_made w).alloc _).alloc _).alloc _
  have hz4 : w4.heap.size = w.heap.size + 4 := by rw [hw4]; simp
  have hN4 : w4.heap[w.heap.size + 1]? = some (.cells nc 57 (0, 0)) := by
    rw [hw4, Below.heap_alloc _ _ _ (by simp), Below.heap_alloc _ _ _ (by simp)]
    simpa using heap_alloc_new (w.alloc (Obj.map #[] 0)) (Obj.cells nc 57)
  have bel4 : Below w.heap.size w w4 := by rw [hw4]; exact (((((Below.refl _ w).alloc (Nat.le_refl _) _).alloc (by go_grown) _).alloc (by go_grown) _).alloc (by go_grown) _)
  clear hw4
  obtain ⟨w5, hrun5, hM5, hg5, hz5⟩ := hM4.update (k := ba) hb0 (by omega) (by intro x hx; cases hx) (.pointer (some ⟨w.heap.size + 1 + 1 + 1, 0, none⟩))
  rw [hrun5]
  have hN5 : w5.heap[w.heap.size + 1]? = some (.cells nc 57 (0, 0)) := by rw [hg5.block _ (by omega) (by simp)]; exact hN4
  have bel5 : Below w.heap.size w w5 := ⟨hg5.os.trans bel4.os, hg5.tape.trans bel4.tape, hg5.output.trans bel4.output, by omega, fun k hk => (hg5.block k (by omega) (by simp; omega)).trans (bel4.block k hk)⟩
  have e12 : w5.cell? ⟨w.heap.size + 1, 12, none⟩ = some (.map (some w.heap.size)) := (cell_blk hN5 12).trans n12
  have hsz5 : w5.heap.size = w.heap.size + 4 := by omega
  clear hrun5 hg5 hz5 hM4 hN4 bel4 hz4 n12
  replace hM5 := hide hM5
  replace hN5 := hide hN5
  replace bel5 := hide bel5
  replace hsz5 := hide hsz5
  go_wp2
  obtain ⟨w6, hw6⟩ : ∃ w6, w6 = (w5.alloc (Obj.cells #[Value.int IntKind.u8 2] 5)).alloc (Obj.cells #[Value.int IntKind.u64 0, Value.int IntKind.i64 0, Value.slice (some { block := w5.heap.size, off := 0 }) 1 1, Value.bool false, Value.bool false, Value.int IntKind.i64 0, Value.int IntKind.u64 0, Value.int IntKind.i64 0, Value.int IntKind.u64 0, Value.slice none 0 0, Value.int IntKind.u64 0, Value.int IntKind.u64 0] 62) := ⟨_, rfl⟩
  rw [← hw6]
  have hb6 : Below w5.heap.size w5 w6 := by rw [hw6]; exact (((Below.refl _ w5).alloc (Nat.le_refl _) _).alloc (by go_grown) _)
  have hz6 : w6.heap.size = w.heap.size + 6 := by rw [hw6]; simp; have := hsz5.out; omega
  have hM6 : MapIs w6 w.heap.size [(ba, .pointer (some ⟨w.heap.size + 1 + 1 + 1, 0, none⟩))] := hM5.out.same (hb6.block _ (by have := hsz5.out; omega))
  obtain ⟨v1, hv1⟩ : ∃ v1, v1 = Value.pointer (some { block := w5.heap.size + 1, off := 0 }) := ⟨_, rfl⟩
  obtain ⟨v0, hv0⟩ : ∃ v0, v0 = Value.pointer (some { block := w.heap.size + 1 + 1 + 1, off := 0 }) := ⟨_, rfl⟩
  rw [← hv0] at hM6
  rw [← hv1]
  obtain ⟨w7, hrun7, hM7, hg7, hz7⟩ := hM6.update (k := ba + 1 + n) (by omega) (by omega) (by intro x hx; simp at hx; subst hx; simp; omega) v1
  rw [hrun7]
  have hF0 : Hid (Fill w w7 v0 v1 n ba f nc 0) := by
    have h5 := hsz5.out
    refine ⟨?_, hM7, fun j hj => by omega, by omega, ?_⟩
    · rw [hg7.block _ (by omega) (by simp), hb6.block _ (by omega)]; exact hN5.out
    · refine ⟨hg7.os.trans (hb6.os.trans bel5.out.os), hg7.tape.trans (hb6.tape.trans bel5.out.tape), hg7.output.trans (hb6.output.trans bel5.out.output), by omega, fun k hk => ?_⟩
      rw [hg7.block k (by omega) (by simp; omega), hb6.block k (by omega)]
      exact bel5.out.block k hk
  clear hrun7 hM7 hg7 hz7 hM6 hz6 hb6 hw6 hN5 hM5 bel5 hsz5 e12
  go_wp2
  go_loopg [73] n (fun g s73 wr => ∃ i : Nat, i ≤ n ∧ n - i ≤ g ∧ s73 = .int .i64 i ∧ Fill w wr v0 v1 n ba f nc i)
  case atStart => exact ⟨0, by omega, by omega, rfl, hF0.out⟩
  case round =>
    obtain ⟨i, hi, hg, rfl, hF⟩ := hrel
    by_cases hlt : i < n
    · have li : decide ((i : Int) < (n : Int)) = true := by simp; omega
      obtain rfl := hsl.out.spot (by omega)
      have hS1 : FillS (w.heap.size + 1) w.heap.size bs (os + i * 4) (f i) wr := hsl.out.fillS hF.below hlt ((cell_blk hF.node 12).trans hnc.out.2.1)
      have hbs := hsl.out.lt (by omega)
      have hFz := hF.size
      have hFm := hF.map
      replace hF := hide hF
      replace hFz := hide hFz
      go_wp2_with fail
      obtain ⟨wa, hwa⟩ : ∃ wa, wa = wr.drew.alloc (.cells #[.int .u64 0, .int .i64 0, .slice (f i).sa (f i).sl (f i).sc, .bool (f i).ch, .bool false, .int .i64 (f i).org, .int .u64 0, .int .i64 0, .int .u64 (f i).vt, .slice none 0 0, .int .u64 0, .int .u64 0] 62) := ⟨_, rfl⟩
      have hwz : wr.drew.heap.size = w.heap.size + 6 + i := hFz.out
      have hba : Below wr.heap.size wr wa := by rw [hwa]; exact (Below.refl _ wr).drew.alloc (by exact Nat.le_refl _) _
      have hMa : MapIs wa w.heap.size ((ba, v0) :: (ba + 1 + n, v1) :: ents ba (w.heap.size + 6) i) := hFm.same (hba.block _ (by have := hFz.out; omega))
      have hnew : ∀ x, x ∈ ((ba, v0) :: (ba + 1 + (n : Int), v1) :: ents ba (w.heap.size + 6) i) → x.1 ≠ ba + 1 + i := by
        intro x hx
        rcases List.mem_cons.1 hx with rfl | hx
        · simp only; omega
        · rcases List.mem_cons.1 hx with rfl | hx
          · simp only; omega
          · have := ents_key _ _ _ x hx; omega
      obtain ⟨wb, hrunb, hMb, hgb, hzb⟩ := hMa.update (k := ba + 1 + i) (by omega) (by omega) hnew (.pointer (some ⟨w.heap.size + 6 + i, 0, none⟩))
      have hbx : (Instr.box 62 (.agg #[.int .u64 0, .int .i64 0, .slice (f i).sa (f i).sl (f i).sc, .bool (f i).ch, .bool false, .int .i64 (f i).org, .int .u64 0, .int .i64 0, .int .u64 (f i).vt, .slice none 0 0, .int .u64 0, .int .u64 0])).run Yba.prog wr.drew = .ok (.pointer (some ⟨w.heap.size + 6 + i, 0, none⟩)) wa := by
        rw [← hwz, hwa]; exact box62 _ _
      have hFn : Hid (Fill w wb v0 v1 n ba f nc (i + 1)) := hF.out.drew.next hwa hMb hgb hzb
      have hSa : FillS (w.heap.size + 1) w.heap.size bs (os + i * 4) (f i) wa := hS1.keep (hba.block _ (by have := hFz.out; omega)) (hba.block _ (by have := hFz.out; omega))
      have hSb : FillS (w.heap.size + 1) w.heap.size bs (os + i * 4) (f i) wb := by
        have h1 := hba.size
        have h2 := hFz.out
        exact hSa.keep (hgb.block _ (by omega) (by simp)) (hgb.block _ (by omega) (by simp; omega))
      clear hMb hgb hzb hMa hwa hnew hFm hba hwz
      refine wp_region_held_drew (S := FillS (w.heap.size + 1) w.heap.size bs (os + i * 4) (f i)) (by kernel_rfl) (by exact hS1) (fun hS2 => ?_)
      refine takeD (i := 0) (some 76) (.pointer (some ⟨w.heap.size + 1, 0, none⟩)) rfl rfl (by kernel_rfl) (by kernel_rfl) (by kernel_rfl) (fun _ _ _ h => h) (by kernel_rfl) (fun w' hw' => rfl) hS2 ?_
      simp only [Act.put, List.setIfInBounds_toArray, List.set_cons_zero, List.set_cons_succ]
      refine takeD (i := 1) (some 77) (.pointer (some ⟨w.heap.size + 1, 0, none⟩)) rfl rfl (by kernel_rfl) (by kernel_rfl) (by kernel_rfl) (fun _ _ _ h => h) (by kernel_rfl) (fun w' hw' => rfl) hS2 ?_
      simp only [Act.put, List.setIfInBounds_toArray, List.set_cons_zero, List.set_cons_succ]
      refine takeD (i := 2) (some 78) (.pointer (some ⟨w.heap.size + 1, 12, none⟩)) rfl rfl (by kernel_rfl) (by kernel_rfl) (by kernel_rfl) (fun _ _ _ h => h) (by kernel_rfl) (fun w' hw' => op_value (fa57_4 _ w')) hS2 ?_
      simp only [Act.put, List.setIfInBounds_toArray, List.set_cons_zero, List.set_cons_succ]
      refine takeD (i := 3) (some 79) (.map (some w.heap.size)) rfl rfl (by kernel_rfl) (by kernel_rfl) (by kernel_rfl) (fun _ _ _ h => h) (by kernel_rfl) (fun w' hw' => op_value (load_one 29 agg29 hw'.1)) hS2 ?_
      simp only [Act.put, List.setIfInBounds_toArray, List.set_cons_zero, List.set_cons_succ]
      refine takeD (i := 4) (some 80) (.int .u64 ba) rfl rfl (by kernel_rfl) (by kernel_rfl) (by kernel_rfl) (fun _ _ _ h => h) (by kernel_rfl) (fun w' hw' => rfl) hS2 ?_
      simp only [Act.put, List.setIfInBounds_toArray, List.set_cons_zero, List.set_cons_succ]
      refine takeD (i := 5) (some 81) (.int .u64 (ba + 1)) rfl rfl (by kernel_rfl) (by kernel_rfl) (by kernel_rfl) (fun _ _ _ h => h) (by kernel_rfl) (fun w' hw' => by go_simp; try (exact wrapu _ (by omega) (by omega))) hS2 ?_
      simp only [Act.put, List.setIfInBounds_toArray, List.set_cons_zero, List.set_cons_succ]
      refine takeD (i := 6) (some 82) (.int .i64 i) rfl rfl (by kernel_rfl) (by kernel_rfl) (by kernel_rfl) (fun _ _ _ h => h) (by kernel_rfl) (fun w' hw' => rfl) hS2 ?_
      simp only [Act.put, List.setIfInBounds_toArray, List.set_cons_zero, List.set_cons_succ]
      refine takeD (i := 7) (some 83) (.int .u64 i) rfl rfl (by kernel_rfl) (by kernel_rfl) (by kernel_rfl) (fun _ _ _ h => h) (by kernel_rfl) (fun w' hw' => by go_simp; try (exact wrapu _ (by omega) (by omega))) hS2 ?_
      simp only [Act.put, List.setIfInBounds_toArray, List.set_cons_zero, List.set_cons_succ]
      refine takeD (i := 8) (some 84) (.int .u64 (ba + 1 + i)) rfl rfl (by kernel_rfl) (by kernel_rfl) (by kernel_rfl) (fun _ _ _ h => h) (by kernel_rfl) (fun w' hw' => by go_simp; try (exact wrapu _ (by omega) (by omega))) hS2 ?_
      simp only [Act.put, List.setIfInBounds_toArray, List.set_cons_zero, List.set_cons_succ]
      refine takeD (i := 9) (some 85) (.slice (some ⟨bs, os, none⟩) n c) rfl rfl (by kernel_rfl) (by kernel_rfl) (by kernel_rfl) (fun _ _ _ h => h) (by kernel_rfl) (fun w' hw' => rfl) hS2 ?_
      simp only [Act.put, List.setIfInBounds_toArray, List.set_cons_zero, List.set_cons_succ]
      refine takeD (i := 10) (some 86) (.int .i64 i) rfl rfl (by kernel_rfl) (by kernel_rfl) (by kernel_rfl) (fun _ _ _ h => h) (by kernel_rfl) (fun w' hw' => rfl) hS2 ?_
      simp only [Act.put, List.setIfInBounds_toArray, List.set_cons_zero, List.set_cons_succ]
      refine takeD (i := 11) (some 87) (.pointer (some ⟨bs, os + i * 4, none⟩)) rfl rfl (by kernel_rfl) (by kernel_rfl) (by kernel_rfl) (fun _ _ _ h => h) (by kernel_rfl) (fun w' hw' => op_value (idx23 bs os n c i hlt w')) hS2 ?_
      simp only [Act.put, List.setIfInBounds_toArray, List.set_cons_zero, List.set_cons_succ]
      refine takeD (i := 12) (some 88) (.pointer (some ⟨bs, os + i * 4, none⟩)) rfl rfl (by kernel_rfl) (by kernel_rfl) (by kernel_rfl) (fun _ _ _ h => h) (by kernel_rfl) (fun w' hw' => op_value (fa64_0 _ _ w')) hS2 ?_
      simp only [Act.put, List.setIfInBounds_toArray, List.set_cons_zero, List.set_cons_succ]
      refine takeD (i := 13) (some 89) (.bool (f i).ch) rfl rfl (by kernel_rfl) (by kernel_rfl) (by kernel_rfl) (fun _ _ _ h => h) (by kernel_rfl) (fun w' hw' => op_value (load_one 4 agg4 hw'.2.1)) hS2 ?_
      simp only [Act.put, List.setIfInBounds_toArray, List.set_cons_zero, List.set_cons_succ]
      refine takeD (i := 14) (some 90) (.slice (some ⟨bs, os, none⟩) n c) rfl rfl (by kernel_rfl) (by kernel_rfl) (by kernel_rfl) (fun _ _ _ h => h) (by kernel_rfl) (fun w' hw' => rfl) hS2 ?_
      simp only [Act.put, List.setIfInBounds_toArray, List.set_cons_zero, List.set_cons_succ]
      refine takeD (i := 15) (some 91) (.int .i64 i) rfl rfl (by kernel_rfl) (by kernel_rfl) (by kernel_rfl) (fun _ _ _ h => h) (by kernel_rfl) (fun w' hw' => rfl) hS2 ?_
      simp only [Act.put, List.setIfInBounds_toArray, List.set_cons_zero, List.set_cons_succ]
      refine takeD (i := 16) (some 92) (.pointer (some ⟨bs, os + i * 4, none⟩)) rfl rfl (by kernel_rfl) (by kernel_rfl) (by kernel_rfl) (fun _ _ _ h => h) (by kernel_rfl) (fun w' hw' => op_value (idx23 bs os n c i hlt w')) hS2 ?_
      simp only [Act.put, List.setIfInBounds_toArray, List.set_cons_zero, List.set_cons_succ]
      refine takeD (i := 17) (some 93) (.pointer (some ⟨bs, os + i * 4 + 1, none⟩)) rfl rfl (by kernel_rfl) (by kernel_rfl) (by kernel_rfl) (fun _ _ _ h => h) (by kernel_rfl) (fun w' hw' => op_value (fa64_1 _ _ w')) hS2 ?_
      simp only [Act.put, List.setIfInBounds_toArray, List.set_cons_zero, List.set_cons_succ]
      refine takeD (i := 18) (some 94) (.int .u64 (f i).vt) rfl rfl (by kernel_rfl) (by kernel_rfl) (by kernel_rfl) (fun _ _ _ h => h) (by kernel_rfl) (fun w' hw' => op_value (load_one 24 agg24 hw'.2.2.1)) hS2 ?_
      simp only [Act.put, List.setIfInBounds_toArray, List.set_cons_zero, List.set_cons_succ]
      refine takeD (i := 19) (some 95) (.slice (some ⟨bs, os, none⟩) n c) rfl rfl (by kernel_rfl) (by kernel_rfl) (by kernel_rfl) (fun _ _ _ h => h) (by kernel_rfl) (fun w' hw' => rfl) hS2 ?_
      simp only [Act.put, List.setIfInBounds_toArray, List.set_cons_zero, List.set_cons_succ]
      refine takeD (i := 20) (some 96) (.int .i64 i) rfl rfl (by kernel_rfl) (by kernel_rfl) (by kernel_rfl) (fun _ _ _ h => h) (by kernel_rfl) (fun w' hw' => rfl) hS2 ?_
      simp only [Act.put, List.setIfInBounds_toArray, List.set_cons_zero, List.set_cons_succ]
      refine takeD (i := 21) (some 97) (.pointer (some ⟨bs, os + i * 4, none⟩)) rfl rfl (by kernel_rfl) (by kernel_rfl) (by kernel_rfl) (fun _ _ _ h => h) (by kernel_rfl) (fun w' hw' => op_value (idx23 bs os n c i hlt w')) hS2 ?_
      simp only [Act.put, List.setIfInBounds_toArray, List.set_cons_zero, List.set_cons_succ]
      refine takeD (i := 22) (some 98) (.pointer (some ⟨bs, os + i * 4 + 2, none⟩)) rfl rfl (by kernel_rfl) (by kernel_rfl) (by kernel_rfl) (fun _ _ _ h => h) (by kernel_rfl) (fun w' hw' => op_value (fa64_2 _ _ w')) hS2 ?_
      simp only [Act.put, List.setIfInBounds_toArray, List.set_cons_zero, List.set_cons_succ]
      refine takeD (i := 23) (some 99) (.int .i64 (f i).org) rfl rfl (by kernel_rfl) (by kernel_rfl) (by kernel_rfl) (fun _ _ _ h => h) (by kernel_rfl) (fun w' hw' => op_value (load_one 3 agg3 hw'.2.2.2.1)) hS2 ?_
      simp only [Act.put, List.setIfInBounds_toArray, List.set_cons_zero, List.set_cons_succ]
      refine takeD (i := 24) (some 100) (.slice (some ⟨bs, os, none⟩) n c) rfl rfl (by kernel_rfl) (by kernel_rfl) (by kernel_rfl) (fun _ _ _ h => h) (by kernel_rfl) (fun w' hw' => rfl) hS2 ?_
      simp only [Act.put, List.setIfInBounds_toArray, List.set_cons_zero, List.set_cons_succ]
      refine takeD (i := 25) (some 101) (.int .i64 i) rfl rfl (by kernel_rfl) (by kernel_rfl) (by kernel_rfl) (fun _ _ _ h => h) (by kernel_rfl) (fun w' hw' => rfl) hS2 ?_
      simp only [Act.put, List.setIfInBounds_toArray, List.set_cons_zero, List.set_cons_succ]
      refine takeD (i := 26) (some 102) (.pointer (some ⟨bs, os + i * 4, none⟩)) rfl rfl (by kernel_rfl) (by kernel_rfl) (by kernel_rfl) (fun _ _ _ h => h) (by kernel_rfl) (fun w' hw' => op_value (idx23 bs os n c i hlt w')) hS2 ?_
      simp only [Act.put, List.setIfInBounds_toArray, List.set_cons_zero, List.set_cons_succ]
      refine takeD (i := 27) (some 103) (.pointer (some ⟨bs, os + i * 4 + 3, none⟩)) rfl rfl (by kernel_rfl) (by kernel_rfl) (by kernel_rfl) (fun _ _ _ h => h) (by kernel_rfl) (fun w' hw' => op_value (fa64_3 _ _ w')) hS2 ?_
      simp only [Act.put, List.setIfInBounds_toArray, List.set_cons_zero, List.set_cons_succ]
      refine takeD (i := 28) (some 104) (.slice (f i).sa (f i).sl (f i).sc) rfl rfl (by kernel_rfl) (by kernel_rfl) (by kernel_rfl) (fun _ _ _ h => h) (by kernel_rfl) (fun w' hw' => op_value (load_one 59 agg59 hw'.2.2.2.2)) hS2 ?_
      simp only [Act.put, List.setIfInBounds_toArray, List.set_cons_zero, List.set_cons_succ]
      refine takeD (i := 29) (some 105) (.agg #[.int .u64 0, .int .i64 0, .slice (f i).sa (f i).sl (f i).sc, .bool (f i).ch, .bool false, .int .i64 (f i).org, .int .u64 0, .int .i64 0, .int .u64 (f i).vt, .slice none 0 0, .int .u64 0, .int .u64 0]) rfl rfl (by kernel_rfl) (by kernel_rfl) (by kernel_rfl) (fun _ _ _ h => h) (by kernel_rfl) (fun w' hw' => op_build 62 _ rfl _ (by kernel_rfl) (slot_built ..)) hS2 ?_
      simp only [Act.put, List.setIfInBounds_toArray, List.set_cons_zero, List.set_cons_succ]
      refine stepVH (i := 30) (some 106) rfl rfl (by kernel_rfl) (by kernel_rfl) (op_value hbx) hSa ?_
      simp only [Act.put, List.setIfInBounds_toArray, List.set_cons_zero, List.set_cons_succ]
      refine stepUH (i := 31) rfl rfl (by kernel_rfl) (by kernel_rfl) (op_skip hrunb) hSb ?_
      refine wpAnyH_done (by kernel_rfl) ?_ _
      simp only [Act.put]
      clear hrunb hbx hS1 hS2 hSa hSb hF hFz
      go_wp2
      go_roundg (n - (i + 1))
      case measure => omega
      case rel => exact ⟨i + 1, by omega, by omega, by go_num, hFn.out⟩
    · have hin : n = i := by omega
      subst hin
      have hR8 := hide hF.ready
      have hB8 := hide (hF.nodeB hnc.out (r == self))
      have hbel8 := hide hF.below
      have hz8 := hide hF.size
      clear hF hg hi hlt
      have lo : decide ((n : Int) < (n : Int)) = false := by simp
      go_upto_if 124 with (first
        | (go_at_call 4
           refine (ask_any (w.heap.size + 1) w.heap.size n self ba rd rep r (r == self) f (fun j => w.heap.size + 6 + j) _ hn hb0 hb1 hr7.1 rfl hsl.out.vt hB8.out hR8.out).mono ?_
           rintro e w8 ⟨rfl, hC⟩
           obtain ⟨⟨v, hN9, hown⟩, h9o, h9t, h9p, h9z, h9b⟩ := hC
           have hbel9 : Hid (Below w.heap.size w w8) := ⟨h9o.trans hbel8.out.os, h9t.trans hbel8.out.tape, h9p.trans hbel8.out.output, Nat.le_trans hbel8.out.size h9z, fun k hk => (h9b k (by have := hz8.out; omega) (by omega)).trans (hbel8.out.block k hk)⟩
           obtain ⟨d21, d53, d46, d47, d65, d66⟩ := node_cells hN9
           have hNl9 : w.heap.size + 1 < w8.heap.size := by have := hz8.out; omega
           replace hown := hide hown
           clear hN9 h9o h9t h9p h9z h9b))
      obtain ⟨ga, g, gc, rfl, hga, hgx⟩ := own_shape hown.out
      obtain ⟨x65, h65⟩ : ∃ x65, Hid (x65 = if (r == self) = true then Value.slice ga (cnt r f n) gc else Value.slice none 0 0) := ⟨_, rfl⟩
      obtain ⟨x66, h66⟩ : ∃ x66, Hid (x66 = if (r == self) = true then Value.slice none 0 0 else Value.slice ga (cnt r f n) gc) := ⟨_, rfl⟩
      rw [← h65.out] at d65
      rw [← h66.out] at d66
      go_upto_if 135 with fail
      go_cut [19, 20] from 135 to 143 (fun s19 s20 wx => s19 = .slice ga (cnt r f n) gc ∧ s20 = .slice none 0 0 ∧ wx = w8)
      case first =>
        rcases Bool.eq_false_or_eq_true (r == self) with hrs | hrs
        · have e65 : Hid (x65 = .slice ga (cnt r f n) gc) := by show _ = _; rw [h65.out, hrs]; rfl
          have e66 : Hid (x66 = .slice none 0 0) := by show _ = _; rw [h66.out, hrs]; rfl
          go_wp2
          go_meet
          case rel => exact ⟨e65.out, e66.out, rfl⟩
        · have e65 : Hid (x65 = .slice none 0 0) := by show _ = _; rw [h65.out, hrs]; rfl
          have e66 : Hid (x66 = .slice ga (cnt r f n) gc) := by show _ = _; rw [h66.out, hrs]; rfl
          go_wp2
          go_meet
          case rel => exact ⟨e66.out, e65.out, rfl⟩
      case rest =>
        obtain ⟨rfl, rfl, rfl⟩ := hcut
        clear d65 d66
        obtain ⟨kn, hkn⟩ : ∃ kn, Hid (cnt r f n = kn) := ⟨_, rfl⟩
        rw [hkn.out] at hga ⊢
        replace hga := hide hga
        replace hgx := hide hgx
        go_wp2
        go_loopg [21, 149] n (fun gk2 s21 s149 wq => ∃ i : Nat, i ≤ n ∧ n - i ≤ gk2 ∧ s149 = .int .i64 i ∧ s21 = .int .i64 (cnt r f i) ∧ Below wc.heap.size wc wq)
        case atStart => exact ⟨0, by omega, by omega, rfl, rfl, Below.refl _ _⟩
        case round =>
          obtain ⟨i, hi, hg, rfl, rfl, hbq⟩ := hrel
          by_cases hlt : i < n
          · have li : decide ((i : Int) < (n : Int)) = true := by simp; omega
            obtain rfl := hsl.out.spot (by omega)
            have hbs := hsl.out.lt (by omega)
            have hbq9 : Hid (Below w.heap.size w wr) := hbel9.out.trans (hbq.mono hbel9.out.size)
            obtain ⟨q0, q1, q2, q3⟩ := hsl.out.four hbq9.out hlt
            have hvi := hsl.out.vt i hlt
            replace hbq := hide hbq
            have hqs := hbq.out.size
            have hcn : Hid (cnt r f (i + 1) = cnt r f i + (if askd r (f i) then 1 else 0)) := rfl
            have hck : cnt r f i ≤ 1024 := by have := cnt_le r f i; omega
            have hat := hide (fun ha : askd r (f i) = true => outp_at self r rd rep ba f hlt ha)
            have hcl := hide (fun ha : askd r (f i) = true => cnt_lt r f hlt ha)
            have hby := hide (hsl.out.bytes i hlt)
            generalize f i = x at q0 q1 q2 q3 hvi hcn hat hcl hby
            obtain ⟨ch, vt, org, sa, sl, sc⟩ := x
            simp only at q0 q1 q2 q3 hvi
            cases ch with
            | true =>
              have e : askd r ⟨true, vt, org, sa, sl, sc⟩ = false := rfl
              rw [e] at hcn
              go_wp2
              go_roundg (n - (i + 1))
              case measure => omega
              case rel => exact ⟨i + 1, by omega, by omega, by go_num, by rw [hcn.out, if_neg (by simp), Nat.add_zero], hbq.out.alloc hqs _⟩
            | false =>
              have hask : askd r ⟨false, vt, org, sa, sl, sc⟩ = (bits BinOp.and IntKind.u64 vt (IntKind.u64.wrap (2 ^ min r.toNat 64)) == 0) := by simp [askd]
              cases e : askd r ⟨false, vt, org, sa, sl, sc⟩ with
              | false =>
                have h64 : decide (64 ≤ r) = false := by
                  rcases Int.lt_or_le r 64 with h | h
                  · simp; omega
                  · rw [e, ask_big r vt h hvi.1 hvi.2] at hask; cases hask
                have hr64 : r < 64 := by simpa using h64
                have hbt : (bits BinOp.and IntKind.u64 (vt / 2 ^ r.toNat) 1 == 0) = false := by rw [← ask_small r vt hr7.1 hr64 hvi.1 hvi.2, ← hask, e]
                rw [e] at hcn
                clear hask e
                go_wp2
                go_roundg (n - (i + 1))
                case measure => omega
                case rel => exact ⟨i + 1, by omega, by omega, by go_num, by rw [hcn.out, if_neg (by simp), Nat.add_zero], hbq.out.alloc hqs _⟩
              | true =>
                have hat' := hat.out e
                have hcl' := hcl.out e
                rw [e] at hcn
                obtain ⟨sby, hby'⟩ := hby.out
                have hkn0 : kn ≤ 1024 := by have := cnt_le r f n; rw [hkn.out] at this; omega
                rw [hkn.out] at hcl'
                obtain rfl := hga.out (by omega)
                have hg9 : g < wc.heap.size := World.block_lt_of_cell? _ _ (hgx.out _ _ (hat' 0 _ rfl))
                have hrg : Hid ((wr.alloc (.cells #[.bool false, .int .u64 vt, .int .i64 org, .slice sa sl sc] 64)).rangeAt g (cnt r f i * 20) (msg self r rd rep (ba + 1 + i) (.slice sa sl sc) org)) := by
                  intro t u hu
                  rw [World.cell?_alloc_lt (h := by show g < _; omega), hbq.out.cell (p := ⟨g, cnt r f i * 20 + t, none⟩) (by exact hg9)]
                  exact hgx.out _ _ (hat' t u hu)
                have h46 : wr.cell? ⟨w.heap.size + 1, 46, none⟩ = some (.int .u64 rd) := (hbq.out.cell (p := ⟨_, 46, none⟩) (by exact hNl9)).trans d46
                have h47 : wr.cell? ⟨w.heap.size + 1, 47, none⟩ = some (.int .i64 rep) := (hbq.out.cell (p := ⟨_, 47, none⟩) (by exact hNl9)).trans d47
                clear hat' hat hby
                obtain ⟨k, hk⟩ : ∃ k, Hid (cnt r f i = k) := ⟨_, rfl⟩
                rw [hk.out] at hcl' hrg hck ⊢
                have lk : decide ((kn : Int) ≤ (k : Int)) = false := by simp; omega
                replace hby' := hide hby'
                rcases Int.lt_or_le r 64 with h6 | h6
                · have h64 : decide (64 ≤ r) = false := by simp; omega
                  have hbt : (bits BinOp.and IntKind.u64 (vt / 2 ^ r.toNat) 1 == 0) = true := by rw [← ask_small r vt hr7.1 h6 hvi.1 hvi.2, ← hask, e]
                  have hbt' : (bits BinOp.and IntKind.u64 (vt / 2 ^ min r.toNat 64) 1 == 0) = true := by rw [Nat.min_eq_left (by omega)]; exact hbt
                  clear hask e
                  go_upto_if 173 with fail
                  clear h6 h64 hbt hbt' q0 q1 q2 q3
                  go_wp2_with (first
                    | (refine wpList_val rfl (some 181) rfl (op_value (run_loadAt_mid _ g (k * 20) 70 (msg self r rd rep (ba + 1 + i) (.slice sa sl sc) org) _ hrg.out Yba.underlying70 rfl (len70 ..))) ?_)
                    | (refine wpList_store70 rfl rfl _ _ rfl _ (wr.heap.size + 1) (by simp) (msg self r rd rep (ba + 1 + i) (.slice sa sl sc) org) rfl rfl rfl (size70 ..) rfl (msg_one ..) ?_
                       intro w10 hB10 hb10 hz10
                       obtain ⟨m0, m1, m2, m3, m4, m5, m6, m7, m8, m9, m12⟩ := msg_cells hB10
                       have s2 : w10.cell? ⟨wr.heap.size, 2, none⟩ = some (.int .i64 org) := (hb10.cell (p := ⟨wr.heap.size, 2, none⟩) (Nat.lt_succ_self _)).trans (by rw [World.cell?_alloc_at (hn := rfl)]; rfl)
                       have s3 : w10.cell? ⟨wr.heap.size, 3, none⟩ = some (.slice sa sl sc) := (hb10.cell (p := ⟨wr.heap.size, 3, none⟩) (Nat.lt_succ_self _)).trans (by rw [World.cell?_alloc_at (hn := rfl)]; rfl)
                       have k46 : w10.cell? ⟨w.heap.size + 1, 46, none⟩ = some (.int .u64 rd) := (hb10.cell (p := ⟨w.heap.size + 1, 46, none⟩) (by show w.heap.size + 1 < _; omega)).trans ((World.cell?_alloc_lt _ _ _ (by show w.heap.size + 1 < _; omega)).trans h46)
                       have k47 : w10.cell? ⟨w.heap.size + 1, 47, none⟩ = some (.int .i64 rep) := (hb10.cell (p := ⟨w.heap.size + 1, 47, none⟩) (by show w.heap.size + 1 < _; omega)).trans ((World.cell?_alloc_lt _ _ _ (by show w.heap.size + 1 < _; omega)).trans h47)
                       have bel10 : Hid (Below wc.heap.size wc w10) := (hbq.out.alloc hqs _).trans (hb10.mono (by omega))
                       have l10 : wr.heap.size + 1 < w10.heap.size := by omega
                       clear hB10 hb10 hz10 h46 h47))
                  clear hrg
                  go_quiet (fail)
                  go_wp2_with (go_at_call 5; refine (equal_same _ sby _ (hby'.out _ ?hb)).mono ?_; (case hb => exact hbel9.out.trans ((below_drewN bel10.out _).mono hbel9.out.size)); rintro e5 w11 ⟨rfl, rfl⟩)
                  go_roundg (n - (i + 1))
                  case measure => omega
                  case rel => exact ⟨i + 1, by omega, by omega, by go_num, by rw [hcn.out, hk.out]; simp, below_drewN bel10.out _⟩
                · have h64 : decide (64 ≤ r) = true := by simp; omega
                  clear hask e
                  go_upto_if 173 with fail
                  clear h6 h64 q0 q1 q2 q3
                  go_wp2_with (first
                    | (refine wpList_val rfl (some 181) rfl (op_value (run_loadAt_mid _ g (k * 20) 70 (msg self r rd rep (ba + 1 + i) (.slice sa sl sc) org) _ hrg.out Yba.underlying70 rfl (len70 ..))) ?_)
                    | (refine wpList_store70 rfl rfl _ _ rfl _ (wr.heap.size + 1) (by simp) (msg self r rd rep (ba + 1 + i) (.slice sa sl sc) org) rfl rfl rfl (size70 ..) rfl (msg_one ..) ?_
                       intro w10 hB10 hb10 hz10
                       obtain ⟨m0, m1, m2, m3, m4, m5, m6, m7, m8, m9, m12⟩ := msg_cells hB10
                       have s2 : w10.cell? ⟨wr.heap.size, 2, none⟩ = some (.int .i64 org) := (hb10.cell (p := ⟨wr.heap.size, 2, none⟩) (Nat.lt_succ_self _)).trans (by rw [World.cell?_alloc_at (hn := rfl)]; rfl)
                       have s3 : w10.cell? ⟨wr.heap.size, 3, none⟩ = some (.slice sa sl sc) := (hb10.cell (p := ⟨wr.heap.size, 3, none⟩) (Nat.lt_succ_self _)).trans (by rw [World.cell?_alloc_at (hn := rfl)]; rfl)
                       have k46 : w10.cell? ⟨w.heap.size + 1, 46, none⟩ = some (.int .u64 rd) := (hb10.cell (p := ⟨w.heap.size + 1, 46, none⟩) (by show w.heap.size + 1 < _; omega)).trans ((World.cell?_alloc_lt _ _ _ (by show w.heap.size + 1 < _; omega)).trans h46)
                       have k47 : w10.cell? ⟨w.heap.size + 1, 47, none⟩ = some (.int .i64 rep) := (hb10.cell (p := ⟨w.heap.size + 1, 47, none⟩) (by show w.heap.size + 1 < _; omega)).trans ((World.cell?_alloc_lt _ _ _ (by show w.heap.size + 1 < _; omega)).trans h47)
                       have bel10 : Hid (Below wc.heap.size wc w10) := (hbq.out.alloc hqs _).trans (hb10.mono (by omega))
                       have l10 : wr.heap.size + 1 < w10.heap.size := by omega
                       clear hB10 hb10 hz10 h46 h47))
                  clear hrg
                  go_quiet (fail)
                  go_wp2_with (go_at_call 5; refine (equal_same _ sby _ (hby'.out _ ?hb)).mono ?_; (case hb => exact hbel9.out.trans ((below_drewN bel10.out _).mono hbel9.out.size)); rintro e5 w11 ⟨rfl, rfl⟩)
                  go_roundg (n - (i + 1))
                  case measure => omega
                  case rel => exact ⟨i + 1, by omega, by omega, by go_num, by rw [hcn.out, hk.out]; simp, below_drewN bel10.out _⟩
          · have hin : n = i := by omega
            subst hin
            rw [hkn.out]
            go_wp2
            go_ret
            exact ⟨rfl, hbel9.out.trans (hbq.mono hbel9.out.size)⟩
end Go.Proofs.Ybulkbdju
