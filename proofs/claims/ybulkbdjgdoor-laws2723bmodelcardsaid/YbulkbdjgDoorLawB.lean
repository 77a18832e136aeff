import Derived.Test.YbulkbdjgDoorBlk0
import Derived.Test.YbulkbdjgDoorBlk1
import Derived.Test.YbulkbdjgDoorBlk2
import Derived.Test.YbulkbdjgDoorBlk3
import Derived.Deep.DeepCutAuto
import Derived.Deep.CutBlock
namespace Go.Proofs.YbulkbdjgDoor
open Go.RowKit

set_option maxRecDepth 100000 in
set_option maxHeartbeats 2000000 in
theorem law_any (ao : Option Addr) (b off len cap : Nat) (cs : Nat → Int × Int) (md pd la ln : Int) (w : World) (hb : b < w.heap.size) (_hcap : len ≤ cap) (hao : 0 < len → ao = some ⟨b, off, none⟩)
    (hlen : len ≤ 1024) (hc0 : ∀ j, j < len → w.cell? ⟨b, off + j * 2, none⟩ = some (.int .u8 (cs j).1)) (hc1 : ∀ j, j < len → w.cell? ⟨b, off + j * 2 + 1, none⟩ = some (.int .i64 (cs j).2))
    (hr : ∀ j, j < len → 0 ≤ (cs j).1 ∧ (cs j).1 < 256) (hmd : 0 ≤ md ∧ md < 256) (hpd : 0 ≤ pd ∧ pd < 256) (hla : 0 ≤ la ∧ la < 256) (h2B : 2 < w.heap.size) (htab : w.cell? ⟨2, 63, none⟩ = some (.int .u8 6)) :
    Calls Ybad.prog 4 #[.slice ao len cap, .int .u8 md, .int .u8 pd, .int .u8 la, .int .i64 ln] w fun e w' => e = .returned (.bool true) ∧ Below w.heap.size w w' := by
  have Hc0 := hide hc0
  have Hc1 := hide hc1
  have Hr := hide hr
  clear hc0 hc1 hr
  have hlen' : decide ((1024 : Int) < len) = false := by simp; omega
  obtain ⟨i0, hi, hz0, hz1, hz2⟩ := info_parts Ybad.info3
  have hmk := mk48
  obtain ⟨i44, hi44, hy0, hy1, hy2⟩ := info_parts Ybad.info44
  obtain ⟨p, hp⟩ : ∃ p : Nat, pd % 3 = p := ⟨(pd % 3).toNat, by omega⟩
  have hp3 : p < 3 := by omega
  have HP := hide hp
  clear hp
  go_enter Ybad.func4, Ybad.ntmps4
  go_upto_block 0 with fail
  go_cut [13, 14] from 39 (fun s13 s14 wc => ∃ es : List (Int × Int), s13 = .slice (some ⟨w.heap.size + 1, 0, none⟩) es.length 48 ∧ s14 = .slice (some ⟨w.heap.size + 1 + 1, 0, none⟩) es.length 48 ∧ Gath w.heap.size w wc es ∧ (md % 3 = 0 → es.length ≤ 8))
  case first =>
    go_wp2_with fail
    go_loopg [13, 14, 49] len (fun g s13 s14 s49 wr => ∃ (k : Nat) (es : List (Int × Int)), Hid (g + k = len) ∧ k ≤ len ∧ s49 = .int .i64 k ∧ s13 = .slice (some ⟨w.heap.size + 1, 0, none⟩) es.length 48 ∧ s14 = .slice (some ⟨w.heap.size + 1 + 1, 0, none⟩) es.length 48 ∧ Gath w.heap.size w wr es ∧ (md % 3 = 0 → es.length ≤ 8) ∧ UsedIs w.heap.size wr es)
    case atStart =>
      obtain ⟨hG, hU⟩ := gath_start w _ 38 rfl
      exact ⟨0, [], hide rfl, Nat.zero_le _, rfl, rfl, rfl, hG, fun _ => by simp, hU⟩
    case round =>
      obtain ⟨k, es, hgk, hk, rfl, rfl, rfl, hG, hm8, hU⟩ := hrel
      have hesl := hG.le
      have hsz := hG.sz
      have Hm8 := hide hm8
      clear hm8
      by_cases hkl : k < len
      · obtain rfl := hao (by omega)
        obtain ⟨x, y, hxy⟩ : ∃ x y, cs k = (x, y) := ⟨_, _, rfl⟩
        have gx : wr.cell? ⟨b, off + k * 2, none⟩ = some (.int .u8 x) := by
          have := (hG.below.cell (p := ⟨b, off + k * 2, none⟩) hb).trans (Hc0.out k hkl)
          rw [hxy] at this; exact this
        have gy : wr.cell? ⟨b, off + k * 2 + 1, none⟩ = some (.int .i64 y) := by
          have := (hG.below.cell (p := ⟨b, off + k * 2 + 1, none⟩) hb).trans (Hc1.out k hkl)
          rw [hxy] at this; exact this
        have hx := Hr.out k hkl
        rw [hxy] at hx
        clear hxy
        obtain ⟨l, hl⟩ : ∃ l : Nat, x % 64 = l := ⟨(x % 64).toNat, by omega⟩
        have hl64 : l < 64 := by omega
        have hbr : b < wr.heap.size := by omega
        have gu := hU.cell l hl64
        have fu := hU.free l
        have hBr : w.heap.size < wr.heap.size := by omega
        cases hub : usedB es l with
        | true =>
          rw [hub] at gu
          go_wp2
          go_roundg (gk - 1)
          case rel => exact ⟨k + 1, es, (by have := hgk.out; exact (by omega : gk - 1 + (k + 1) = len)), hkl, by go_num, rfl, rfl, hG.alloc _, Hm8.out, hU.alloc hBr _⟩
          case measure => have := hgk.out; omega
        | false =>
          rw [hub] at gu
          by_cases hbk : md % 3 = 0 ∧ 8 ≤ es.length
          · obtain ⟨hm0, h8⟩ := hbk
            have hm0' : (md % 3 == 0) = true := by simp [hm0]
            clear hm0
            go_wp2
            go_meet
            case rel => exact ⟨es, rfl, rfl, hG.alloc _, Hm8.out⟩
          · by_cases h48 : 48 ≤ es.length
            · have hm0' : (md % 3 == 0) = false := by
                simp; intro e; exact hbk ⟨e, by omega⟩
              clear hbk
              go_wp2
              go_meet
              case rel => exact ⟨es, rfl, rfl, hG.alloc _, Hm8.out⟩
            · have oL := hG.oL
              have oN := hG.oN
              have e48 : decide ((48 : Int) ≤ es.length) = false := by simp; omega
              have hne : ∀ x : Nat, some (wr.heap.size + x) ≠ some (w.heap.size + 1) := by intro x; simp; omega
              have hne1 : some wr.heap.size ≠ some (w.heap.size + 1) := by simp; omega
              by_cases hm0 : md % 3 = 0
              · have hm0' : (md % 3 == 0) = true := by simp [hm0]
                have h8 : es.length < 8 := by
                  have := fun h => hbk ⟨hm0, h⟩
                  omega
                clear hbk hm0
                go_wp2_with (first
                  | (at_builtin; refine wpList_append_fits _ rfl (.tmp 72) (.tmp 74) 39 rfl (w.heap.size + 1) 3 i0 1 Ybad.underlying39 hi hz1 (w.heap.size + 1) es.length 48 (es.map fun e => .int .i64 e.1) rfl (pre_L hG l _ _ _) ⟨wr.heap.size + 1, 0, none⟩ 1 1 [.int .i64 l] rfl rfl (by simpa using cell_one ((wr.setCell ⟨w.heap.size, l, none⟩ (.bool true)).alloc (.cells #[.int .u8 x, .int .i64 y] 41)) (.int .i64 l) 3) (one_cell_int _ _) (by omega) ?_; intro w1 hown1 hgrow1; obtain ⟨oN1, gy1, hs1⟩ := mid_N hG hgrow1)
                  | (at_builtin; refine wpList_append_fits _ rfl (.tmp 76) (.tmp 79) 39 rfl (w.heap.size + 1) 3 i0 1 Ybad.underlying39 hi hz1 (w.heap.size + 1 + 1) es.length 48 (es.map fun e => .int .i64 e.2) rfl (oN1.alloc _) ⟨w1.heap.size, 0, none⟩ 1 1 [.int .i64 y] rfl rfl (cell_one w1 (.int .i64 y) 3) (one_cell_int _ _) (by omega) ?_; intro w2 hown2 hgrow2))
                obtain ⟨hG', hU'⟩ := gath_step hG hU hl64 hub (by omega) hown1 hgrow1 hown2 hgrow2
                go_roundg (gk - 1)
                case rel => exact ⟨k + 1, es ++ [((l : Int), y)], (by have := hgk.out; exact (by omega : gk - 1 + (k + 1) = len)), hkl, by go_num, by simp, by simp, hG', fun _ => by simp; omega, hU'⟩
                case measure => have := hgk.out; omega
              · have hm0' : (md % 3 == 0) = false := by simp [hm0]
                clear hbk
                go_wp2_with (first
                  | (at_builtin; refine wpList_append_fits _ rfl (.tmp 72) (.tmp 74) 39 rfl (w.heap.size + 1) 3 i0 1 Ybad.underlying39 hi hz1 (w.heap.size + 1) es.length 48 (es.map fun e => .int .i64 e.1) rfl (pre_L hG l _ _ _) ⟨wr.heap.size + 1, 0, none⟩ 1 1 [.int .i64 l] rfl rfl (by simpa using cell_one ((wr.setCell ⟨w.heap.size, l, none⟩ (.bool true)).alloc (.cells #[.int .u8 x, .int .i64 y] 41)) (.int .i64 l) 3) (one_cell_int _ _) (by omega) ?_; intro w1 hown1 hgrow1; obtain ⟨oN1, gy1, hs1⟩ := mid_N hG hgrow1)
                  | (at_builtin; refine wpList_append_fits _ rfl (.tmp 76) (.tmp 79) 39 rfl (w.heap.size + 1) 3 i0 1 Ybad.underlying39 hi hz1 (w.heap.size + 1 + 1) es.length 48 (es.map fun e => .int .i64 e.2) rfl (oN1.alloc _) ⟨w1.heap.size, 0, none⟩ 1 1 [.int .i64 y] rfl rfl (cell_one w1 (.int .i64 y) 3) (one_cell_int _ _) (by omega) ?_; intro w2 hown2 hgrow2))
                obtain ⟨hG', hU'⟩ := gath_step hG hU hl64 hub (by omega) hown1 hgrow1 hown2 hgrow2
                go_roundg (gk - 1)
                case rel => exact ⟨k + 1, es ++ [((l : Int), y)], (by have := hgk.out; exact (by omega : gk - 1 + (k + 1) = len)), hkl, by go_num, by simp, by simp, hG', fun h => absurd h hm0, hU'⟩
                case measure => have := hgk.out; omega
      · go_wp2
        go_meet
        case rel => exact ⟨es, rfl, rfl, hG, Hm8.out⟩
  case rest =>
    obtain ⟨es, rfl, rfl, hG, hm8⟩ := hcut
    have Hm8 := hide hm8
    clear hm8
    have hesl := hG.le
    have hsz := hG.sz
    go_wp2_with fail
    go_loop [19, 87] (fun s19 s87 => ∃ k : Nat, k ≤ es.length ∧ s87 = .int .i64 k ∧ s19 = .bool (PlainB.want (la % 80) ln (es.take k))) (fun _ s87 => es.length - (intOf s87).toNat)
    case atStart => exact ⟨0, Nat.zero_le _, rfl, rfl⟩
    case round =>
      obtain ⟨k, hk, rfl, rfl⟩ := hrel
      by_cases hkl : k < es.length
      · have c1 := hG.lane k hkl
        have c2 := hG.ns k hkl
        have hw := PlainB.want_take (la % 80) ln es k hkl
        generalize es[k] = ek at *
        have HW := hide hw
        clear hw
        cases hq : ek.1 == la % 80 with
        | true =>
          go_wp2
          go_round
          case rel => exact ⟨k + 1, hkl, by go_num, by rw [HW.out, hq]; rfl⟩
          case measure => simp [intOf]; omega
        | false =>
          go_wp2
          go_round
          case rel => exact ⟨k + 1, hkl, by go_num, by rw [HW.out, hq]; rfl⟩
          case measure => simp [intOf]; omega
      · have hke : k = es.length := by omega
        subst hke
        rw [List.take_length]
        have hN : pd % 3 + 64 = ((p + 64 : Nat) : Int) := by have := HP.out; omega
        have HN := hide hN
        clear hN
        go_wp2_with (first | (at_make; refine wpList_make_own _ rfl (.const (.int .i64 0)) (.tmp 107) 42 rfl (w.heap.size + 3) 44 i44 (.agg #[.int .i64 0, .int .i64 0]) 2 Ybad.underlying42 hi44 hy0 hy1 .i64 .i64 _ (p + 64) rfl rfl HN.out (by rw [hy2]; omega) (by unfold maxLen; omega) hsz ?_; intro w1 hown1 hgrow1))
        have hC1 := cuts_start hG hgrow1 hown1
        obtain ⟨g, hg⟩ : ∃ g, wc.heap.size = g := ⟨_, rfl⟩
        rw [hg] at hC1 hown1
        simp only [hg]
        clear hg
        go_loopg [22, 23] p (fun gg s22 s23 wr => ∃ (k : Nat) (cs : List (Int × Int)), Hid (gg + k = p) ∧ k ≤ p ∧ s23 = .int .i64 k ∧ s22 = .slice (some ⟨g, 0, none⟩) k (p + 64) ∧ Hid (cs.length = k) ∧ Cuts w.heap.size w wr es g (p + 64) cs)
        case atStart => exact ⟨0, [], hide rfl, Nat.zero_le _, rfl, rfl, hide rfl, hC1⟩
        case round =>
          clear hC1 hown1 hgrow1
          obtain ⟨k, cs, hgk, hk, rfl, rfl, hcl, hC⟩ := hrel
          have hpp := HP.out
          by_cases hkp : k < p
          · have hlt : (k : Int) < pd % 3 := by omega
            clear hpp
            have own := hC.own
            rw [hcl.out] at own
            go_wp2_with (first | (at_builtin; refine wpList_append_fits _ rfl (.tmp 114) (.tmp 117) 42 rfl (w.heap.size + 3) 44 i44 2 Ybad.underlying42 hi44 hy1 g k (p + 64) (cutCells cs) rfl (own.alloc _) ⟨wr.heap.size, 0, none⟩ 1 1 [.int .i64 (la % 80), .int .i64 (-9223372036854775808)] rfl rfl (cell_two _ _ _ _) (two_cell_int _ _ _) (by omega) ?_; intro w1 hown1 hgrow1))
            have hC' := hC.pushed (by rw [hcl.out]; exact hown1) hgrow1
            go_roundg (gk - 1)
            case rel => exact ⟨k + 1, _, (by have := hgk.out; exact (by omega : gk - 1 + (k + 1) = p)), hkp, by go_num, rfl, (by rw [List.length_append, hcl.out]; rfl), hC'⟩
            case measure => have := hgk.out; omega
          · have hlt : ¬ (k : Int) < pd % 3 := by omega
            have hkp : k = p := by omega
            subst hkp
            clear hpp
            go_upto_block 6 with fail
            go_cut [22] from 39 (fun s22 wd => Blk6Rel w.heap.size wr.heap.size g k w es s22 wd)
            case first =>
              rename_i hJ hK
              have hT0 : TBox w.heap.size g (wr.alloc (.cells #[.int .i64 0, .int .i64 0, .bool false] 46)) wr.heap.size 0 0 false := ⟨by simp, by simp, by simp, fun j => by simp, by simp, by have := hC.gath.sz; omega, by have := hC.glt; omega⟩
              have hme := fun a' w' h => hK a' w' (hJ a' w' h)
              by_cases hes : es.length = 0
              · exact blk6_none _ _ _ (by kernel_rfl) _ _ _ _ _ _ _ _ _ _ _ _ _ _ _ _ _ _ _ _ _ _ _ _ _ _ _ _ _ _ _ _ _ _ _ _ _ _ _ _ _ _ _ _ _ _ _ _ _ _ _ _ _ _ _ _ _ _ _ _ _ _ _ _ _ _ _ _ _ _ _ _ _ _ _ _ _ _ _ _ _ _ _ _ _ _ _ _ _ _ _ _ _ _ _ _ _ _ _ _ _ _ _ _ _ _ _ _ _ _ _ _ _ _ _ _ _ _ _ _ _ _ _ _ _ _ _ _ _ _ _ _ _ _ _ _ _ _ _ _ _ _ _ _ _ _ _ _ _ _ _ _ _ _ _ _ _ _ _ _ _ _ _ _ _ _ _ _ _ _ _ _ _ _ _ _ _ _ _ _ _ _ _ _ _ _ _ _ _ _ _ _ _ _ _ _ _ _ _ _ _ _ _ _ _ _ _ _ _ _ _ _ _ _ _ _ _ _ _ _ _ _ _ _ _ _ _ _ _ _ _ _ _ _ _ _ _ _ _ _ _ _ _ _ _ _ _ _ _ _ _ _ _ _ _ _ _ _ _ _ _ _ _ _ _ _ _ _ _ _ _ _ _ _ _ _ _ _ _ _ _ _ (hC.alloc _) hcl.out hT0 hp3 hmd hes hme
              · by_cases hm0 : md % 3 = 0
                · exact blk6_row _ _ _ (by kernel_rfl) _ _ _ _ _ _ _ _ _ _ _ _ _ _ _ _ _ _ _ _ _ _ _ _ _ _ _ _ _ _ _ _ _ _ _ _ _ _ _ _ _ _ _ _ _ _ _ _ _ _ _ _ _ _ _ _ _ _ _ _ _ _ _ _ _ _ _ _ _ _ _ _ _ _ _ _ _ _ _ _ _ _ _ _ _ _ _ _ _ _ _ _ _ _ _ _ _ _ _ _ _ _ _ _ _ _ _ _ _ _ _ _ _ _ _ _ _ _ _ _ _ _ _ _ _ _ _ _ _ _ _ _ _ _ _ _ _ _ _ _ _ _ _ _ _ _ _ _ _ _ _ _ _ _ _ _ _ _ _ _ _ _ _ _ _ _ _ _ _ _ _ _ _ _ _ _ _ _ _ _ _ _ _ _ _ _ _ _ _ _ _ _ _ _ _ _ _ _ _ _ _ _ _ _ _ _ _ _ _ _ _ _ _ _ _ _ _ _ _ _ _ _ _ _ _ _ _ _ _ _ _ _ _ _ _ _ _ _ _ _ _ _ _ _ _ _ _ _ _ _ _ _ _ _ _ _ _ _ _ _ _ _ _ _ _ _ _ _ _ _ _ _ _ _ _ _ _ _ _ _ _ _ (hC.alloc _) hcl.out hT0 hp3 hmd (by omega) hm0 (Hm8.out hm0) hme
                · by_cases hm1 : md % 3 = 1
                  · exact blk6_dense _ _ _ (by kernel_rfl) _ _ _ _ _ _ _ _ _ _ _ _ _ _ _ _ _ _ _ _ _ _ _ _ _ _ _ _ _ _ _ _ _ _ _ _ _ _ _ _ _ _ _ _ _ _ _ _ _ _ _ _ _ _ _ _ _ _ _ _ _ _ _ _ _ _ _ _ _ _ _ _ _ _ _ _ _ _ _ _ _ _ _ _ _ _ _ _ _ _ _ _ _ _ _ _ _ _ _ _ _ _ _ _ _ _ _ _ _ _ _ _ _ _ _ _ _ _ _ _ _ _ _ _ _ _ _ _ _ _ _ _ _ _ _ _ _ _ _ _ _ _ _ _ _ _ _ _ _ _ _ _ _ _ _ _ _ _ _ _ _ _ _ _ _ _ _ _ _ _ _ _ _ _ _ _ _ _ _ _ _ _ _ _ _ _ _ _ _ _ _ _ _ _ _ _ _ _ _ _ _ _ _ _ _ _ _ _ _ _ _ _ _ _ _ _ _ _ _ _ _ _ _ _ _ _ _ _ _ _ _ _ _ _ _ _ _ _ _ _ _ _ _ _ _ _ _ _ _ _ _ _ _ _ _ _ _ _ _ _ _ _ _ _ _ _ _ _ _ _ _ _ _ _ _ _ _ _ _ _ _ _ (hC.alloc _) hcl.out hT0 hp3 hmd (by omega) hm1 hme
                  · exact blk6_hash _ _ _ (by kernel_rfl) _ _ _ _ _ _ _ _ _ _ _ _ _ _ _ _ _ _ _ _ _ _ _ _ _ _ _ _ _ _ _ _ _ _ _ _ _ _ _ _ _ _ _ _ _ _ _ _ _ _ _ _ _ _ _ _ _ _ _ _ _ _ _ _ _ _ _ _ _ _ _ _ _ _ _ _ _ _ _ _ _ _ _ _ _ _ _ _ _ _ _ _ _ _ _ _ _ _ _ _ _ _ _ _ _ _ _ _ _ _ _ _ _ _ _ _ _ _ _ _ _ _ _ _ _ _ _ _ _ _ _ _ _ _ _ _ _ _ _ _ _ _ _ _ _ _ _ _ _ _ _ _ _ _ _ _ _ _ _ _ _ _ _ _ _ _ _ _ _ _ _ _ _ _ _ _ _ _ _ _ _ _ _ _ _ _ _ _ _ _ _ _ _ _ _ _ _ _ _ _ _ _ _ _ _ _ _ _ _ _ _ _ _ _ _ _ _ _ _ _ _ _ _ _ _ _ _ _ _ _ _ _ _ _ _ _ _ _ _ _ _ _ _ _ _ _ _ _ _ _ _ _ _ _ _ _ _ _ _ _ _ _ _ _ _ _ _ _ _ _ _ _ _ _ _ _ _ _ _ _ _ _ (hC.alloc _) hcl.out hT0 hp3 hmd (by omega) (by omega) h2B htab hme
            case rest =>
              clear hC hcl
              obtain ⟨cs, sl, dn, rfl, hC, hT, hR⟩ := hcut
              obtain ⟨t0, t1, t2, _, hTlt, _, _⟩ := hT
              have hCg := hC.glt
              obtain ⟨sc, hsc, hsc1, hsc10⟩ := site_built ⟨wc.heap.size, 0, none⟩ ⟨g, 0, none⟩ 2 2 cs.length (k + 64)
              go_wp2_with (refine wpList_built2 rfl 87 1 9 (.tmp 281) (.tmp 282) rfl (.slice (some ⟨wc.heap.size, 0, none⟩) 2 2) (.slice (some ⟨g, 0, none⟩) cs.length (k + 64)) rfl rfl sc hsc ?_)
              refine (prec_ready (ra := la % 80) (ln := ln) hC hR (by omega) (by omega) (by omega) (by omega) h2B htab rfl rfl rfl rfl rfl hsc1 hsc10).mono ?_
              rintro e w' ⟨rfl, hb'⟩
              have hbel : Below w.heap.size w w' := ((hC.alloc _).alloc _).gath.below.trans (hb'.mono (by have := hC.gath.sz; simp; omega))
              clear hC hR hb' hsc hsc1 hsc10
              go_wp2
              go_ret
              exact ⟨by simp, hbel⟩

set_option maxRecDepth 100000 in
set_option maxHeartbeats 400000 in
theorem law_long (ao : Option Addr) (len cap : Nat) (md pd la ln : Int) (w : World) (hlen : 1024 < len) :
    Calls Ybad.prog 4 #[.slice ao len cap, .int .u8 md, .int .u8 pd, .int .u8 la, .int .i64 ln] w fun e w' => e = .returned (.bool true) ∧ Below w.heap.size w w' := by
  have hlen' : decide ((1024 : Int) < len) = true := by simp; omega
  go_enter Ybad.func4, Ybad.ntmps4
  go_wp2
  go_ret
  exact ⟨rfl, Below.refl _ _⟩
end Go.Proofs.YbulkbdjgDoor
