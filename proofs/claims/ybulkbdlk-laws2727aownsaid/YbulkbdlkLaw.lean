/- LawS2727AOwn, walked. -/
import Derived.Test.YbulkbdlkTail
namespace Go.Proofs.Ybulkbdlk
open Go.RowKit

set_option maxRecDepth 100000 in
set_option maxHeartbeats 1000000 in
theorem law_any (kk vv : Option Addr) (bk ok nk ck bv ov nv cv : Nat) (fk : Nat → Int) (fv : Nat → ByteArray) (kd : Int) (kn sm : Bool) (w : World)
    (h0 : 0 ≤ kd) (h1 : kd < 256) (hnk : nk ≤ 1024) (hnv : nv ≤ 1024) (zk : kk = none → nk = 0) (zv : vv = none → nv = 0)
    (pk : 0 < nk → kk = some ⟨bk, ok, none⟩) (pv : 0 < nv → vv = some ⟨bv, ov, none⟩)
    (cellk : ∀ j, j < nk → w.cell? ⟨bk, ok + j, none⟩ = some (.int .i64 (fk j))) (cellv : ∀ j, j < nv → w.cell? ⟨bv, ov + j, none⟩ = some (.string (fv j)))
    (hfv : ∀ j, j < nv → (fv j).size ≤ 281474976710656) :
    Calls Yba.prog 3 #[.slice kk nk ck, .slice vv nv cv, .int .u8 kd, .bool kn, .bool sm] w fun e w' => e = .returned (.bool true) ∧ Below w.heap.size w w' := by
  have sk : Hid (Src w kk nk (ints fk nk)) := src_of hnk zk pk cellk (fun _ => rfl)
  have sv : Hid (Src w vv nv (strs fv nv)) := src_of hnv zv pv cellv (fun _ => rfl)
  have ek : Hid (∀ j, j < nk → w.cell? ⟨bk, ok + j, none⟩ = some (.int .i64 (fk j))) := cellk
  have ev : Hid (∀ j, j < nv → w.cell? ⟨bv, ov + j, none⟩ = some (.string (fv j))) := cellv
  have epk : Hid (0 < nk → kk = some ⟨bk, ok, none⟩) := pk
  have epv : Hid (0 < nv → vv = some ⟨bv, ov, none⟩) := pv
  have efv : Hid (∀ j, j < nv → (fv j).size ≤ 281474976710656) := hfv
  clear cellk cellv pk pv zk zv hfv
  have lk : decide ((1024 : Int) < (nk : Int)) = false := by simp; omega
  have lv : decide ((1024 : Int) < (nv : Int)) = false := by simp; omega
  go_enter Yba.func3, Yba.ntmps3
  go_upto_if 38 with (first
    | (go_at_call 4
       refine (clone4s (sk.out.below ?b0)).mono ?_
       case b0 => exact ((Below.refl _ w).alloc (Nat.le_refl _) _).alloc (by go_grown) _
       rintro e w1 ⟨ak, rk, ck', rfl, hk⟩
       replace hk := hide hk)
    | (go_at_call 5
       refine (clone5s (sv.out.below ?b1)).mono ?_
       case b1 => exact ((((Below.refl _ w).alloc (Nat.le_refl _) _).alloc (by go_grown) _)).trans (hk.out.below.mono (by go_grown))
       rintro e w2 ⟨av, rv, cv', rfl, hv⟩
       replace hv := hide hv))
  go_cut [15] from 16 to 54 (fun s wx => KidsDone w2 wx s)
  case first =>
    cases kn with
    | true =>
      go_wp2
      go_meet
      case rel => exact kids_nil _
    | false =>
      obtain ⟨k, hk8⟩ : ∃ k : Nat, kd % 8 = (k : Int) := ⟨(kd % 8).toNat, by omega⟩
      have hk7 : k ≤ 7 := by omega
      obtain ⟨i0, hi, hz0, hz1, hz2⟩ := info_parts Yba.info30
      obtain ⟨w3, hmake, hown0, hgrow0⟩ := run_makeSlice_owned (P := Yba.prog) w2 w2.heap.size 29 30 i0 _ 1 Yba.underlying29 hi hz0 hz1 .i64 .i64 k (by omega) (by rw [hz2]; omega) (by simp [maxLen]; omega) (Nat.le_refl _)
      have hK0 : Hid (Kids w2 w3 (.slice (some ⟨w2.heap.size, 0, none⟩) 0 k) 0) := ⟨fun _ => 0, hown0, by simp, (Below.refl _ w2).grown hgrow0 (Nat.le_refl _) (by simp)⟩
      replace hi := hide hi
      replace hz0 := hide hz0
      replace hz1 := hide hz1
      replace hz2 := hide hz2
      clear hown0 hgrow0
      go_wp2
      simp only [hk8, Bool.not_false]
      go_loopg [15, 17] k (fun g s15 s17 wr => ∃ i : Nat, i ≤ k ∧ k - i ≤ g ∧ s17 = .int .i64 i ∧ Kids w2 wr s15 i)
      case atStart => exact ⟨0, by omega, by omega, rfl, hK0.out⟩
      case round =>
        obtain ⟨i, hik, hg, rfl, hK⟩ := hrel
        by_cases hlt : i < k
        · obtain ⟨f, hown, hnil, hb⟩ := hK
          have hown' : Hid (wr.ownsRow w2.heap.size 30 1 u15 i (ptrs f i)) := hown
          have hb' : Hid (Below w2.heap.size w2 wr) := hb
          clear hown hb hnil
          have blt := hb'.out.size
          go_wp2_with (at_builtin; refine wpList_append_own _ rfl _ _ 29 rfl w2.heap.size 30 i0 _ 1 8 Yba.underlying29 hi.out hz0.out hz1.out hz2.out rfl (by omega) u15 i (ptrs f i) rfl ?qc0 ⟨wr.heap.size + 1, 0, none⟩ 1 1 [.pointer (some ⟨wr.heap.size, 0, none⟩)] rfl ?qc1 ?qc2 ?qc3 ?qc4 ?qc5 ?qc6 ?_)
          case qc0 => exact ownsRow_below hown'.out (((Below.refl _ wr).alloc (Nat.le_refl _) _).alloc (by go_grown) _)
          case qc1 => rfl
          case qc2 =>
            intro j u hj
            rcases j with _ | j
            · obtain rfl := Option.some.inj hj
              simp [Addr.add]
            · simp at hj
          case qc3 => intro u hu; obtain rfl := List.mem_singleton.1 hu; rfl
          case qc4 => simp [maxLen]; omega
          case qc5 => omega
          case qc6 => go_grown
          intro v' w4 hown4 hgrow4 hnil4
          have hK4 : Hid (Kids w2 w4 v' (i + 1)) := by
            refine ⟨_, by rw [← ptrs_snoc]; exact hown4, ?_, ?_⟩
            · exact hnil4
            · refine (((hb'.out.alloc hb'.out.size _).alloc (by go_grown) _)).grown hgrow4 (by go_grown) ?_
              intro b hbk
              exact (hown'.out.lt b hbk).1
          clear hown4 hgrow4 hnil4
          go_wp2
          go_roundg (k - (i + 1))
          case measure => omega
          case rel => exact ⟨i + 1, by omega, by omega, by go_num, hK4.out⟩
        · have : i = k := by omega
          subst this
          go_wp2
          go_meet
          case rel => exact kids_done hK hk7
  case rest =>
    obtain ⟨ac, nc, cc, rc, fc, rfl, hnc, hpc, hsc, hb2⟩ := hcut
    have hsc' : Hid (Src wc ac nc (ptrs fc nc)) := hsc
    have hpc' : Hid (0 < nc → ac = some ⟨rc, 0, none⟩ ∧ rc < wc.heap.size) := hpc
    have hb2' : Hid (Below w2.heap.size w2 wc) := hb2
    clear hsc hpc hb2
    go_upto_if 63 with (first
      | (go_at_call 6
         refine (clone6s hsc'.out).mono ?_
         rintro e w4 ⟨ad, rd, cd, rfl, hd⟩
         replace hd := hide hd))
    have b0 : Below w.heap.size w ((w.alloc (Obj.cells #[Value.int IntKind.u8 0] 26)).alloc (Obj.cells #[Value.int IntKind.u8 0] 26)) := ((Below.refl _ w).alloc (Nat.le_refl _) _).alloc (by go_grown) _
    have bc4 : Below wc.heap.size wc w4 := hd.out.below
    have b24 : Below w2.heap.size w2 w4 := hb2'.out.trans (bc4.mono hb2'.out.size)
    have b14 : Below w1.heap.size w1 w4 := hv.out.below.trans (b24.mono hv.out.below.size)
    have b04 : Below ((w.alloc (Obj.cells #[Value.int IntKind.u8 0] 26)).alloc (Obj.cells #[Value.int IntKind.u8 0] 26)).heap.size ((w.alloc (Obj.cells #[Value.int IntKind.u8 0] 26)).alloc (Obj.cells #[Value.int IntKind.u8 0] 26)) w4 := hk.out.below.trans (b14.mono hk.out.below.size)
    have bw4 : Below w.heap.size w w4 := b0.trans (b04.mono b0.size)
    have six : Hid (Six w4 kk vv ak av ac ad nk nv nc fk fv fc) := by
      refine ⟨(show At w kk nk (FK fk) from ⟨bk, ok, epk.out, ek.out⟩).below bw4, (show At w vv nv (FV fv) from ⟨bv, ov, epv.out, ev.out⟩).below bw4,
        (show Cop _ _ _ _ _ _ ((List.range nk).map (FK fk)) 3 from hk.out).at.below b14, (show Cop _ _ _ _ _ _ ((List.range nv).map (FV fv)) 9 from hv.out).at.below b24,
        (show At wc ac nc (FC fc) from ⟨rc, 0, fun h => (hpc'.out h).1, fun j hj => ?_⟩).below bc4, (show Cop _ _ _ _ _ _ ((List.range nc).map (FC fc)) 30 from hd.out).at⟩
      have := hsc'.out.cells ⟨rc, 0, none⟩ (hpc'.out (by omega)).1 j _ (ptrs_get fc hj)
      rw [Addr.add_lit] at this
      exact this
    have hO4 : w4.heap[w.heap.size]? = some (.cells #[.int .u8 0] 26 (0, 0)) := by
      rw [b04.block w.heap.size (by go_grown), Below.heap_alloc _ _ _ (by go_grown)]
      exact heap_alloc_new w _
    have hA4 : w4.heap[w.heap.size + 1]? = some (.cells #[.int .u8 0] 26 (0, 0)) := by
      rw [b04.block (w.heap.size + 1) (by go_grown)]
      simpa using heap_alloc_new (w.alloc (Obj.cells #[Value.int IntKind.u8 0] 26)) (Obj.cells #[Value.int IntKind.u8 0] 26)
    have hlt4 : w.heap.size + 1 < w4.heap.size := Nat.lt_of_lt_of_le (by go_grown) b04.size
    have ik : ak.isNone = kk.isNone := hk.out.isn
    have iv : av.isNone = vv.isNone := hv.out.isn
    obtain ⟨w5, hw5⟩ : ∃ w5, w5 = w4.alloc (Obj.cells #[Value.slice ak nk ck', Value.slice av nv cv', Value.slice ac nc cc, Value.pointer (some { block := w.heap.size + 1, off := 0 })] 32) := ⟨_, rfl⟩
    have b45 : Below w4.heap.size w4 w5 := by rw [hw5]; exact (Below.refl _ w4).alloc (Nat.le_refl _) _
    have nlt5 : w4.heap.size < w5.heap.size := by rw [hw5]; go_grown
    have node5 : Node w5 w4.heap.size ak av ac nk ck' nv cv' nc cc (w.heap.size + 1) := by rw [hw5]; exact heap_alloc_new w4 _
    rw [← hw5]
    clear hw5 b0 bc4 b24 b14 b04 hk hv hd hsc' hpc' hb2' sk sv ek ev epk epv
    have hO5 : w5.heap[w.heap.size]? = some (.cells #[.int .u8 0] 26 (0, 0)) := by rw [b45.block _ (by omega)]; exact hO4
    have hA5 : w5.heap[w.heap.size + 1]? = some (.cells #[.int .u8 0] 26 (0, 0)) := by rw [b45.block _ (by omega)]; exact hA4
    clear hO4 hA4
    obtain ⟨N, hN⟩ : ∃ N, N = w4.heap.size := ⟨_, rfl⟩
    rw [← hN] at node5 nlt5 ⊢
    have hwN : w.heap.size ≤ N := by omega
    have b45' : Hid (Below N w4 w5) := by rw [hN]; exact b45
    have bw4' : Hid (Below w.heap.size w w4) := bw4
    replace hO5 := hide hO5
    replace hA5 := hide hA5
    have hN' : Hid (N = w4.heap.size) := hN
    have node5' : Hid (Node w5 N ak av ac nk ck' nv cv' nc cc (w.heap.size + 1)) := node5
    have n0 := node5.k
    have n1 := node5.v
    have n2 := node5.c
    have n3 := node5.o
    have nf : w5.frozen? ⟨N, 3, none⟩ = false := frozen_of_row w5 N 3 _ _ node5
    clear hlt4 b45 bw4 hN node5
    have e24 := eq24
    have e30 := eq30
    have d24 := ne24
    have s22 := q22
    have s23 := q23
    have s29 := q29
    cases sm with
    | true =>
      go_wp2_with (first
        | (go_at_call 7
           refine (own_same _ _ _ (node5'.out.setO _).o).mono ?_
           rintro e w6 ⟨rfl, hw6⟩
           have nd6 : Node w6 N ak av ac nk ck' nv cv' nc cc w.heap.size := by rw [hw6]; exact node5'.out.setO _
           have m0 := nd6.k
           have m1 := nd6.v
           have m2 := nd6.c
           have m3 := nd6.o
           clear nd6
           have hB : Hid (Below w4.heap.size w4 w6) := by rw [hw6, ← hN'.out]; exact b45'.out.setCell (p := ⟨N, 3, none⟩) (Nat.le_refl _) _
           clear hw6)
        | (go_at_call 8
           refine (equal8p hnk (six.out.below hB.out).ak (six.out.below hB.out).kk).mono ?_
           rintro e w7 ⟨rfl, q, rfl⟩)
        | (go_at_call 9
           refine (equal9p hnv (six.out.below (below_drewN hB.out _)).av (six.out.below (below_drewN hB.out _)).vv).mono ?_
           rintro e w7 ⟨rfl, q, rfl⟩)
        | (go_at_call 10
           refine (equal10p (by omega) (six.out.below (below_drewN hB.out _)).ac (six.out.below (below_drewN hB.out _)).ad).mono ?_
           rintro e w7 ⟨rfl, q, rfl⟩))
      go_ret
      exact ⟨rfl, bw4'.out.trans ((below_drewN hB.out _).mono bw4'.out.size)⟩
    | false =>
      go_upto_if 191 with (first
        | (go_at_call 7
           refine (own_copy w5 N (w.heap.size + 1) w.heap.size ak av ac nk ck' nv cv' nc cc ((List.range nk).map (FK fk)) ((List.range nv).map (FV fv)) ((List.range nc).map (FC fc)) _ _ _ _ node5'.out (by omega) hA5.out hO5.out ?sk ?sv ?sc).mono ?_
           case sk => exact (six.out.below (hN'.out ▸ b45'.out)).ak.src hnk (fun _ => rfl)
           case sv => exact (six.out.below (hN'.out ▸ b45'.out)).av.src hnv (fun _ => rfl)
           case sc => exact (six.out.below (hN'.out ▸ b45'.out)).ac.src (by omega) (fun _ => rfl)
           rintro e w6 ⟨R, rfl, ak2, gk, ck2, av2, gv, cv2, ac2, gc, cc2, nodeR, copk, copv, copc, hR⟩
           have nodeN := node5'.out.below copk.below
           have r0 := nodeR.k
           have r1 := nodeR.v
           have r2 := nodeR.c
           have r3 := nodeR.o
           have m0 := nodeN.k
           have m1 := nodeN.v
           have m2 := nodeN.c
           have m3 := nodeN.o
           have hRN : (binOp .eql 30 (.pointer (some ⟨R, 0, none⟩)) (.pointer (some ⟨N, 0, none⟩))).run Yba.prog w6 = .ok (.bool false) w6 := eq30_other w6 (fun h => absurd (Addr.mk.inj h).1 (by omega)) nodeR nodeN
           have jk : ak2.isNone = kk.isNone := copk.isn.trans ik
           have jv : av2.isNone = vv.isNone := copv.isn.trans iv
           have jc : ac2.isNone = ac.isNone := copc.isn
           have hB : Hid (Below w4.heap.size w4 w6) := (hN'.out ▸ b45'.out).trans (copk.below.mono (by rw [hN'.out] at nlt5; omega))
           replace copk := hide copk
           replace copv := hide copv
           replace copc := hide copc
           replace nodeR := hide nodeR
           replace nodeN := hide nodeN)
        | (go_at_call 8
           refine (equal8p hnk copk.out.at (six.out.below hB.out).kk).mono ?_
           rintro e w7 ⟨rfl, q8, rfl⟩)
        | (go_at_call 9
           refine (equal9p hnv (copv.out.drewN _).at (six.out.below (below_drewN hB.out _)).vv).mono ?_
           rintro e w7 ⟨rfl, q9, rfl⟩)
        | (go_at_call 10
           refine (equal10p (by omega) (copc.out.drewN _).at (six.out.below (below_drewN hB.out _)).ad).mono ?_
           rintro e w7 ⟨rfl, q10, rfl⟩)
        | (go_at_call 11
           first
             | refine (leaf_is R nc cc2 ac2 _ (nodeR.out.drewN _).c).mono ?_
             | refine (leaf_is N nc cc ac _ (nodeN.out.drewN _).c).mono ?_
           rintro e w7 ⟨rfl, rfl⟩))
      go_cut [10] from 192 to 216 (fun s10 wx => s10 = .bool false ∧ T2 w5 wx R w.heap.size ak2 av av2 ac ac2 nk ck2 gv nv cv2 gc nc cc2 fv fc)
      case first =>
        by_cases hz : nk = 0
        · subst hz
          go_wp2
          go_meet
          case rel => exact ⟨rfl, nodeR.out.drewN _, copv.out.drewN _, copc.out.drewN _⟩
        · have hz0 : 0 < nk := by omega
          obtain ⟨rfl, g0, gf, gge, glt, cur, hcur⟩ := copk.out.first hz0
          obtain ⟨b, o, hak, hcell⟩ := (six.out.below hB.out).ak
          obtain rfl := hak hz0
          have c0 : w6.cell? ⟨b, o, none⟩ = some (.int .i64 (fk 0)) := hcell 0 hz0
          have g0' : w6.cell? ⟨gk, 0, none⟩ = some (.int .i64 (fk 0)) := g0
          have hbl : b < N := by
            obtain ⟨b', o', hak', hcell'⟩ := six.out.ak
            have := hak' hz0
            simp only [Option.some.injEq, Addr.mk.injEq] at this
            rw [hN'.out, this.1]
            exact World.block_lt_of_cell? _ _ (hcell' 0 hz0)
          have hRg : R ≠ gk := node_ne nodeR.out hcur (by decide)
          clear hcell hak g0
          replace hcur := hide hcur
          have hgN : gk ≠ N := by omega
          have hgb : gk ≠ b := by omega
          have hNg : N ≠ gk := by omega
          have hbg : b ≠ gk := by omega
          have hgR : gk ≠ R := fun h => hRg h.symm
          have wn : (fk 0 == wrap64 (fk 0 + 1)) = false := beq_eq_false_iff_ne.2 (of_decide_eq_false (wrap64_ne (fk 0)))
          go_wp2_with fail
          go_region
          go_wp2_with fail
          obtain ⟨w8, hw8⟩ : ∃ w8, w8 = (w6.drewN (q8 + q9 + q10 + 1)).setCell ⟨gk, 0, none⟩ (.int .i64 (wrap64 (fk 0 + 1))) := ⟨_, rfl⟩
          rw [← hw8]
          have hcur' : (w6.drewN (q8 + q9 + q10 + 1)).heap[gk]? = some (.cells cur 3 (0, 0)) := hcur.out
          have nR8 : Node w8 R (some ⟨gk, 0, none⟩) av2 ac2 nk ck2 nv cv2 nc cc2 w.heap.size := by rw [hw8]; exact (nodeR.out.drewN _).set hRg _
          have nN8 : Node w8 N (some ⟨b, o, none⟩) av ac nk ck' nv cv' nc cc (w.heap.size + 1) := by rw [hw8]; exact (nodeN.out.drewN _).set hNg _
          have v8 : Cop w5 w8 av av2 gv nv ((List.range nv).map (FV fv)) 9 := by rw [hw8]; exact (copv.out.drewN _).set gge hcur' (by decide) _
          have c8 : Cop w5 w8 ac ac2 gc nc ((List.range nc).map (FC fc)) 30 := by rw [hw8]; exact (copc.out.drewN _).set gge hcur' (by decide) _
          have x0 := nR8.k
          have x1 := nN8.k
          have x2 : w8.cell? ⟨b, o, none⟩ = some (.int .i64 (fk 0)) := by
            rw [hw8, World.cell?_setCell_far _ _ _ _ hgb]; exact c0
          have x3 : w8.cell? ⟨gk, 0, none⟩ = some (.int .i64 (wrap64 (fk 0 + 1))) := by
            have hs := heap_setCell_same (w6.drewN (q8 + q9 + q10 + 1)) gk 0 cur 3 (.int .i64 (wrap64 (fk 0 + 1))) hcur'
            rw [← hw8] at hs
            rw [cell_of_row w8 gk 0 _ _ _ hs]
            have hcs : 0 < cur.size := by
              have := cell_of_row w6 gk 0 cur 3 (0, 0) hcur.out
              rw [g0'] at this
              rcases Nat.eq_zero_or_pos cur.size with h | h
              · rw [Array.getElem?_eq_none (by omega)] at this; cases this
              · exact h
            simp [hcs]
          have hT : Hid (T2 w5 w8 R w.heap.size (some ⟨gk, 0, none⟩) av av2 ac ac2 nk ck2 gv nv cv2 gc nc cc2 fv fc) := ⟨nR8, v8, c8⟩
          clear nR8 nN8 v8 c8 hw8 hcur'
          go_quiet (fail)
          go_wp2
          go_meet
          case rel => exact ⟨rfl, below_T2 hT.out _⟩
      case rest =>
        obtain ⟨rfl, nR, cv9, cc9⟩ := hcut
        have nN := node5'.out.below cv9.below
        have hB9 : Hid (Below w4.heap.size w4 wc) := (hN'.out ▸ b45'.out).trans (cv9.below.mono (by rw [hN'.out] at nlt5; omega))
        have y1 := nR.v
        have z1 := nN.v
        replace cv9 := hide cv9
        replace cc9 := hide cc9
        replace nR := hide nR
        replace nN := hide nN
        clear r0 r1 r2 r3 m0 m1 m2 m3 n0 n1 n2 n3 nf hRN copk copv copc nodeR nodeN hB jk jv jc
        go_upto_if 222 with fail
        go_cut [10] from 223 to 247 (fun s10 wx => s10 = .bool false ∧ T3 w5 wx R w.heap.size ak2 av2 ac ac2 nk ck2 nv cv2 gc nc cc2 fc)
        case first =>
          by_cases hz : nv = 0
          · subst hz
            go_wp2
            go_meet
            case rel => exact ⟨rfl, nR.out, cc9.out⟩
          · have hz0 : 0 < nv := by omega
            obtain ⟨rfl, g0, gf, gge, glt, cur, hcur⟩ := cv9.out.first hz0
            obtain ⟨b, o, hak, hcell⟩ := (six.out.below hB9.out).av
            obtain rfl := hak hz0
            have c0 : wc.cell? ⟨b, o, none⟩ = some (.string (fv 0)) := hcell 0 hz0
            have g0' : wc.cell? ⟨gv, 0, none⟩ = some (.string (fv 0)) := g0
            have hbl : b < N := by
              obtain ⟨b', o', hak', hcell'⟩ := six.out.av
              have := hak' hz0
              simp only [Option.some.injEq, Addr.mk.injEq] at this
              rw [hN'.out, this.1]
              exact World.block_lt_of_cell? _ _ (hcell' 0 hz0)
            have hRg : R ≠ gv := node_ne nR.out hcur (by decide)
            clear hcell hak g0
            replace hcur := hide hcur
            have hgN : gv ≠ N := by omega
            have hgb : gv ≠ b := by omega
            have hNg : N ≠ gv := by omega
            have hbg : b ≠ gv := by omega
            have hgR : gv ≠ R := fun h => hRg h.symm
            have wl : (fv 0).size + 1 ≤ 9223372036854775807 := by have := efv.out 0 hz0; omega
            have wn := str_list_ne (fv 0)
            go_wp2_with fail
            go_region
            go_wp2_with fail
            obtain ⟨w8, hw8⟩ : ∃ w8, w8 = (wc.setCell ⟨gv, 0, none⟩ (.string (fv 0 ++ ⟨#[120]⟩))).drew := ⟨_, rfl⟩
            rw [← hw8]
            have hcur' : wc.heap[gv]? = some (.cells cur 9 (0, 0)) := hcur.out
            have nR8 : Node w8 R ak2 (some ⟨gv, 0, none⟩) ac2 nk ck2 nv cv2 nc cc2 w.heap.size := by rw [hw8]; exact (nR.out.set hRg _).drewN 1
            have nN8 : Node w8 N ak (some ⟨b, o, none⟩) ac nk ck' nv cv' nc cc (w.heap.size + 1) := by rw [hw8]; exact (nN.out.set hNg _).drewN 1
            have c8 : Cop w5 w8 ac ac2 gc nc ((List.range nc).map (FC fc)) 30 := by rw [hw8]; exact (cc9.out.set gge hcur' (by decide) _).drewN 1
            have x0 := nR8.v
            have x1 := nN8.v
            have x2 : w8.cell? ⟨b, o, none⟩ = some (.string (fv 0)) := by
              have : (wc.setCell ⟨gv, 0, none⟩ (.string (fv 0 ++ ⟨#[120]⟩))).cell? ⟨b, o, none⟩ = some (.string (fv 0)) := by
                rw [World.cell?_setCell_far _ _ _ _ hgb]; exact c0
              rw [hw8]; exact this
            have x3 : w8.cell? ⟨gv, 0, none⟩ = some (.string (fv 0 ++ ⟨#[120]⟩)) := by
              have hs : w8.heap[gv]? = some (.cells (cur.setIfInBounds 0 (.string (fv 0 ++ ⟨#[120]⟩))) 9 (0, 0)) := by
                rw [hw8]
                exact heap_setCell_same wc gv 0 cur 9 (.string (fv 0 ++ ⟨#[120]⟩)) hcur'
              rw [cell_of_row w8 gv 0 _ _ _ hs]
              have hcs : 0 < cur.size := by
                have := cell_of_row wc gv 0 cur 9 (0, 0) hcur.out
                rw [g0'] at this
                rcases Nat.eq_zero_or_pos cur.size with h | h
                · rw [Array.getElem?_eq_none (by omega)] at this; cases this
                · exact h
              simp [hcs]
            have hT : Hid (T3 w5 w8 R w.heap.size ak2 (some ⟨gv, 0, none⟩) ac ac2 nk ck2 nv cv2 gc nc cc2 fc) := ⟨nR8, c8⟩
            clear nR8 nN8 c8 hw8 hcur'
            go_quiet (fail)
            go_wp2
            go_meet
            case rel => exact ⟨rfl, below_T3 hT.out _⟩
        case rest =>
          obtain ⟨rfl, nR3, c3⟩ := hcut
          have nN3 := node5'.out.below c3.below
          have hB3 : Hid (Below w4.heap.size w4 wc) := (hN'.out ▸ b45'.out).trans (c3.below.mono (by rw [hN'.out] at nlt5; omega))
          have y2 := nR3.c
          have z2 := nN3.c
          replace c3 := hide c3
          replace nR3 := hide nR3
          replace nN3 := hide nN3
          clear y1 z1
          go_upto_if 253 with fail
          go_cut [10] from 254 to 265 (fun s10 wx => s10 = .bool false ∧ Below w5.heap.size w5 wx)
          case first =>
            by_cases hz : nc = 0
            · subst hz
              go_wp2
              go_meet
              case rel => exact ⟨rfl, c3.out.below⟩
            · have hz0 : 0 < nc := by omega
              obtain ⟨rfl, g0, gf, gge, glt, cur, hcur⟩ := c3.out.first hz0
              obtain ⟨b, o, hak, hcell⟩ := (six.out.below hB3.out).ac
              obtain rfl := hak hz0
              have c0 : wc.cell? ⟨b, o, none⟩ = some (.pointer (some ⟨fc 0, 0, none⟩)) := hcell 0 hz0
              have g0' : wc.cell? ⟨gc, 0, none⟩ = some (.pointer (some ⟨fc 0, 0, none⟩)) := g0
              have hbl : b < N := by
                obtain ⟨b', o', hak', hcell'⟩ := six.out.ac
                have := hak' hz0
                simp only [Option.some.injEq, Addr.mk.injEq] at this
                rw [hN'.out, this.1]
                exact World.block_lt_of_cell? _ _ (hcell' 0 hz0)
              clear hcell hak g0
              replace hcur := hide hcur
              have hgN : gc ≠ N := by omega
              have hgb : gc ≠ b := by omega
              have hNg : N ≠ gc := by omega
              have hbg : b ≠ gc := by omega
              go_wp2
              go_meet
              case rel => exact ⟨rfl, c3.out.below.setCell (p := ⟨gc, 0, none⟩) gge _⟩
          case rest =>
            obtain ⟨rfl, bl⟩ := hcut
            have nN4 := node5'.out.below bl
            have hB4 : Hid (Below w4.heap.size w4 wc) := (hN'.out ▸ b45'.out).trans (bl.mono (by rw [hN'.out] at nlt5; omega))
            have v0 := nN4.k
            have v1 := nN4.v
            have v2 := nN4.c
            clear nN4 bl y2 z2
            go_wp2_with (first
              | (go_at_call 8
                 refine (equal8p hnk (six.out.below hB4.out).ak (six.out.below hB4.out).kk).mono ?_
                 rintro e w7 ⟨rfl, p8, rfl⟩)
              | (go_at_call 9
                 refine (equal9p hnv (six.out.below (below_drewN hB4.out _)).av (six.out.below (below_drewN hB4.out _)).vv).mono ?_
                 rintro e w7 ⟨rfl, p9, rfl⟩)
              | (go_at_call 10
                 refine (equal10p (by omega) (six.out.below (below_drewN hB4.out _)).ac (six.out.below (below_drewN hB4.out _)).ad).mono ?_
                 rintro e w7 ⟨rfl, p10, rfl⟩))
            go_ret
            exact ⟨rfl, bw4'.out.trans ((below_drewN hB4.out _).mono bw4'.out.size)⟩

end Go.Proofs.Ybulkbdlk
