import Derived.Test.YbulkbdjgDoorParts2
import Derived.Test.YbulkbdjgDoorPrec2
import Derived.Test.YbulkbdjgDoorPrec3
namespace Go.Proofs.YbulkbdjgDoor
open Go.RowKit

theorem prec_ready {B : Nat} {w wc : World} {es cs : List (Int × Int)} {g n p sl : Nat} {dn : Bool} {ra ln : Int} {recs sc : Array Value} (hC : Cuts B w wc es g n cs) (hR : Ready es cs p sl dn)
    (hra0 : 0 ≤ ra) (hra1 : ra < 80) (hp : p ≤ 2) (hn : n ≤ 100) (hB2 : 2 < B) (ht : w.cell? ⟨2, 63, none⟩ = some (.int .u8 6))
    (r2 : recs[2]? = some (.int .i64 ra)) (r3 : recs[3]? = some (.int .i64 ln)) (r26 : recs[26]? = some (.int .i64 p)) (r27 : recs[27]? = some (.int .i64 sl)) (r28 : recs[28]? = some (.bool dn))
    (s1 : sc[1]? = some (.slice (some ⟨wc.heap.size, 0, none⟩) 2 2)) (s10 : sc[10]? = some (.slice (some ⟨g, 0, none⟩) cs.length n)) :
    Calls Ybad.prog 9 #[.pointer (some ⟨wc.heap.size + 1, 0, none⟩), .int .i64 0, .int .i64 1] ((wc.alloc (.cells recs 49)).alloc (.cells sc 87)) fun e w' =>
      e = .returned (.bool (PlainB.want ra ln es)) ∧ Below ((wc.alloc (.cells recs 49)).alloc (.cells sc 87)).heap.size ((wc.alloc (.cells recs 49)).alloc (.cells sc 87)) w' := by
  have hC2 := (hC.alloc (.cells recs 49)).alloc (.cells sc 87)
  have hrec : ∀ j, ((wc.alloc (.cells recs 49)).alloc (.cells sc 87)).cell? ⟨wc.heap.size, j, none⟩ = recs[j]? := fun j => by
    rw [World.cell?_alloc_lt _ _ _ (by simp), World.cell?_alloc_at _ _ _ _ rfl]
  have hsc : ∀ j, ((wc.alloc (.cells recs 49)).alloc (.cells sc 87)).cell? ⟨wc.heap.size + 1, j, none⟩ = sc[j]? := fun j => by
    rw [World.cell?_alloc_at _ _ _ _ (by simp)]
  have hS : wc.heap.size + 1 < ((wc.alloc (.cells recs 49)).alloc (.cells sc 87)).heap.size := by simp
  have hRl : wc.heap.size < ((wc.alloc (.cells recs 49)).alloc (.cells sc 87)).heap.size := by simp; omega
  have hG := hC2.glt.2
  have hle := hC.le
  have ht2 := (hC2.gath.below.cell (p := ⟨2, 63, none⟩) hB2).trans ht
  have h2 : 2 < ((wc.alloc (.cells recs 49)).alloc (.cells sc 87)).heap.size := by have := hC2.gath.sz; omega
  have hnod := hC.gath.nod
  generalize ((wc.alloc (.cells recs 49)).alloc (.cells sc 87)) = W at *
  generalize wc.heap.size = R at *
  rcases hR with ⟨rfl, rfl⟩ | ⟨pad, T, e, hpad, hT, h1, hh⟩
  · exact (prec_zero (R + 1) R p dn W hS hRl ((hsc 1).trans s1) ((hrec 26).trans r26) ((hrec 27).trans r27) ((hrec 28).trans r28))
  · have hlen : p + sl ≤ cs.length := by rw [e, List.length_append]; omega
    have c0 : ∀ j, j < sl → W.cell? ⟨g, 2 * p + 2 * j, none⟩ = some (.int .i64 (T.getD j (-1, 0)).1) := fun j hj => by
      rw [← hpad]; exact hC2.tabFst e j (by omega)
    have c1 : ∀ j, j < sl → W.cell? ⟨g, 2 * p + 2 * j + 1, none⟩ = some (.int .i64 (T.getD j (-1, 0)).2) := fun j hj => by
      rw [← hpad]; exact hC2.tabSnd e j (by omega)
    rcases hh with ⟨h8, hTab⟩ | ⟨h9, h64, rfl, lo, hlo0, hlo1, hD, hfirst⟩ | ⟨rfl, rfl, hH, hE⟩
    · refine (prec_scan (R + 1) R g p sl cs.length n dn ra ln (fun j => T.getD j (-1, 0)) W hS hRl hG h1 h8 hlen hle hp ((hsc 1).trans s1) ((hsc 10).trans s10) ((hrec 2).trans r2) ((hrec 3).trans r3) ((hrec 26).trans r26) ((hrec 27).trans r27) ((hrec 28).trans r28) c0 c1).mono ?_
      rintro e' w' ⟨⟨b, rfl, hb⟩, hbel⟩
      exact ⟨by rw [PlainB.scan_ok hTab hnod hra0 hb], hbel⟩
    · have hlo : W.cell? ⟨g, p * 2, none⟩ = some (.int .i64 lo) := by
        have := c0 0 (by omega)
        rw [hfirst, show 2 * p + 2 * 0 = p * 2 by omega] at this
        exact this
      refine (prec_dense (R + 1) R g p sl cs.length n ra ln lo (fun j => T.getD j (-1, 0)) W hS hRl hG h9 hlen hle hp hn hra0 hra1 hlo0 hlo1 ((hsc 1).trans s1) ((hsc 10).trans s10) ((hrec 2).trans r2) ((hrec 3).trans r3) ((hrec 26).trans r26) ((hrec 27).trans r27) ((hrec 28).trans r28) hlo c0 c1).mono ?_
      rintro e' w' ⟨⟨b, rfl, hb⟩, hbel⟩
      have hTab := hD.tab
      rw [hT] at hTab
      refine ⟨by rw [PlainB.dense_ok hTab hnod hra0 (fun j hj hm => hD.pos j (by omega) hm) hb], hbel⟩
    · obtain ⟨j, hj, hje⟩ := PlainB.empties_has hE
      have hbd := hsh_bd ra
      obtain ⟨dd, hdd, hbef, hend⟩ := PlainB.hash_stop (tab := fun j => T.getD j (-1, 0)) (g := (hsh ra).toNat) (by omega) ra (by omega : j < 64) hje
      refine (prec_hash (R + 1) R g p cs.length n (hsh ra).toNat dd ra ln (fun j => T.getD j (-1, 0)) W hS hRl hG hlen hle hp hra0 hra1 (by omega) hdd hbef hend ht2 h2 ((hsc 1).trans s1) ((hsc 10).trans s10) ((hrec 2).trans r2) ((hrec 3).trans r3) ((hrec 26).trans r26) ((hrec 27).trans r27) ((hrec 28).trans r28) c0 c1).mono ?_
      rintro e' w' ⟨⟨b, rfl, hb⟩, hbel⟩
      exact ⟨by rw [PlainB.hash_ok (h := fun l => (hsh l).toNat) hH hnod hra0 hdd hbef hend hb], hbel⟩
end Go.Proofs.YbulkbdjgDoor
