/- askForVotes, walked. -/
import Derived.Test.YbulkbdjuSend
import Derived.Deep.LoopGhost
namespace Go.Proofs.Ybulkbdju
open Go.RowKit

/-- One slot as it is handed in. -/
structure Slt where
  ch : Bool
  vt : Int
  org : Int
  sa : Option Addr
  sl : Nat
  sc : Nat
/-- The node with its one box that is used. -/
def NodeB (w : World) (N M : Nat) (self b nx rd rep : Int) (inb : Bool) (v : Value) : Prop :=
  NodeIs w N M self b nx rd rep (if inb then v else .slice none 0 0) (if inb then .slice none 0 0 else v)

theorem send_any (base N M : Nat) (self b nx rd rep s to : Int) (inb : Bool) (v : Value) (org : Int) (sa : Option Addr) (sl sc k : Nat) (xs : List Value) (w : World) (hto : (to == self) = inb) (hN : NodeB w N M self b nx rd rep inb v) (hown : w.ownsRow base 70 20 v k xs) (hk : k ≤ 2000) (hbase : base ≤ w.heap.size) (hNb : N < base) :
    Calls Yba.prog 6 #[.pointer (some ⟨N, 0, none⟩), .agg (msg 0 to rd rep s (.slice sa sl sc) org).toArray] w fun e w' => e = .returned (.tuple #[]) ∧ ∃ v', NodeB w' N M self b nx rd rep inb v' ∧ Sent base w w' N v v' k xs (msg self to rd rep s (.slice sa sl sc) org) := by
  cases inb with
  | true =>
    refine (send_in base N M self b nx rd rep s to v (.slice none 0 0) org sa sl sc k xs w (by simpa using hto) hN hown hk hbase hNb).mono ?_
    rintro e w' ⟨he, v', h1, h2⟩
    exact ⟨he, v', h1, h2⟩
  | false =>
    refine (send_out base N M self b nx rd rep s to (.slice none 0 0) v org sa sl sc k xs w (by simpa using hto) hN hown hk hbase hNb).mono ?_
    rintro e w' ⟨he, v', h1, h2⟩
    exact ⟨he, v', h1, h2⟩

theorem NodeIs.same {w w' : World} {N M : Nat} {self b nx rd rep : Int} {vi vo : Value} (h : NodeIs w N M self b nx rd rep vi vo) (hb : w'.heap[N]? = w.heap[N]?) : NodeIs w' N M self b nx rd rep vi vo := by
  obtain ⟨nc, h1, h2⟩ := h
  exact ⟨nc, hb.trans h1, h2⟩
/-- Is slot x asked of r? -/
def askd (r : Int) (x : Slt) : Bool := !x.ch && (bits .and .u64 x.vt (IntKind.u64.wrap (2 ^ min r.toNat 64)) == 0)
def cnt (r : Int) (f : Nat → Slt) : Nat → Nat
  | 0 => 0
  | i + 1 => cnt r f i + (if askd r (f i) then 1 else 0)
/-- The box's cells. -/
def outp (self r rd rep b : Int) (f : Nat → Slt) : Nat → List Value
  | 0 => []
  | i + 1 => outp self r rd rep b f i ++ (if askd r (f i) then msg self r rd rep (b + 1 + i) (.slice (f i).sa (f i).sl (f i).sc) (f i).org else [])
theorem cnt_le (r : Int) (f : Nat → Slt) : ∀ i, cnt r f i ≤ i
  | 0 => Nat.le_refl _
  | i + 1 => by have := cnt_le r f i; simp only [cnt]; split <;> omega

/-- What askForVotes finds. -/
structure Ready (w : World) (N M n : Nat) (b : Int) (f : Nat → Slt) (pb : Nat → Nat) : Prop where
  look : ∀ i, i < n → ∀ w', w'.heap[M]? = w.heap[M]? → (Instr.lookup 29 (.map (some M)) (.int .u64 (b + 1 + i)) false).run Yba.prog w' = .ok (.pointer (some ⟨pb i, 0, none⟩)) w'
  slot : ∀ i, i < n → SlotAt w (pb i) (f i).ch (f i).vt (f i).org (.slice (f i).sa (f i).sl (f i).sc)
  ne : ∀ i, i < n → pb i ≠ N
  mne : M ≠ N
  mlt : M < w.heap.size

/-- How far it has come. -/
structure Come (w wr : World) (N M : Nat) (self b nx rd rep r : Int) (inb : Bool) (f : Nat → Slt) (i : Nat) : Prop where
  box : ∃ v, NodeB wr N M self b nx rd rep inb v ∧ wr.ownsRow w.heap.size 70 20 v (cnt r f i) (outp self r rd rep b f i)
  os : wr.os = w.os
  tape : wr.tape = w.tape
  output : wr.output = w.output
  size : w.heap.size ≤ wr.heap.size
  block : ∀ j, j < w.heap.size → j ≠ N → wr.heap[j]? = w.heap[j]?

set_option maxRecDepth 100000 in
set_option maxHeartbeats 400000 in
theorem ask_any (N M n : Nat) (self b rd rep r : Int) (inb : Bool) (f : Nat → Slt) (pb : Nat → Nat) (w : World) (hn : n ≤ 1024) (hb0 : 0 ≤ b) (hb1 : b < 4294967296) (hr0 : 0 ≤ r) (hto : (r == self) = inb)
    (hvt : ∀ i, i < n → 0 ≤ (f i).vt ∧ (f i).vt < 18446744073709551616)
    (hN : NodeB w N M self b (b + 1 + n) rd rep inb (.slice none 0 0)) (hR : Ready w N M n b f pb) :
    Calls Yba.prog 4 #[.pointer (some ⟨N, 0, none⟩), .int .i64 r] w fun e w' => e = .returned (.tuple #[]) ∧ Come w w' N M self b (b + 1 + n) rd rep r inb f n := by
  have hNl : N < w.heap.size := by obtain ⟨nc, h, _⟩ := hN; exact lt_blk h
  have h0 : Hid (Come w w N M self b (b + 1 + n) rd rep r inb f 0) := ⟨⟨_, hN, rfl, .inl ⟨rfl, rfl⟩⟩, rfl, rfl, rfl, Nat.le_refl _, fun _ _ _ => rfl⟩
  have c21 : w.cell? ⟨N, 21, none⟩ = some (.int .u64 b) := by obtain ⟨nc, h, n1, n12, n21, n53, _⟩ := hN; exact (cell_blk h 21).trans n21
  replace hN := hide hN
  replace hR := hide hR
  replace hvt := hide hvt
  go_enter Yba.func4, Yba.ntmps4
  go_wp2
  go_loopg [4, 5] n (fun g s4 s5 wr => ∃ i : Nat, i ≤ n ∧ n - i ≤ g ∧ s4 = .int .u64 (b + 1 + i) ∧ Come w wr N M self b (b + 1 + n) rd rep r inb f i)
  case atStart => exact ⟨0, by omega, by omega, by simp, h0.out⟩
  case round =>
    obtain ⟨i, hi, hg, rfl, hC⟩ := hrel
    obtain ⟨⟨v, hNr, hown⟩, ho, ht, hp, hsz, hblk⟩ := hC
    obtain ⟨c12, c53⟩ : wr.cell? ⟨N, 12, none⟩ = some (.map (some M)) ∧ wr.cell? ⟨N, 53, none⟩ = some (.int .u64 (b + 1 + n)) := by
      obtain ⟨nc, h, n1, n12, n21, n53, _⟩ := hNr
      exact ⟨(cell_blk h 12).trans n12, (cell_blk h 53).trans n53⟩
    have hNlr : N < wr.heap.size := by omega
    replace hNr := hide hNr
    replace hown := hide hown
    replace hblk := hide hblk
    replace ho := hide ho
    replace ht := hide ht
    replace hp := hide hp
    by_cases hlt : i < n
    · have lk := hR.out.look i hlt wr (hblk.out M hR.out.mlt hR.out.mne)
      have hsl : SlotAt wr (pb i) (f i).ch (f i).vt (f i).org (.slice (f i).sa (f i).sl (f i).sc) := by
        have h := hR.out.slot i hlt
        unfold SlotAt at h ⊢
        rw [hblk.out (pb i) (lt_blk h) (hR.out.ne i hlt)]
        exact h
      have hvi := hvt.out i hlt
      have d1 : decide (b + 1 + (i : Int) < b + 1 + (n : Int)) = true := by simp; omega
      have c3 : wr.cell? ⟨pb i, 3, none⟩ = some (.bool (f i).ch) := cell_blk hsl 3
      have c8 : wr.cell? ⟨pb i, 8, none⟩ = some (.int .u64 (f i).vt) := cell_blk hsl 8
      have hpl := lt_blk hsl
      replace hsl := hide hsl
      have hcn : Hid (cnt r f (i + 1) = cnt r f i + (if askd r (f i) then 1 else 0)) := rfl
      have hon : Hid (outp self r rd rep b f (i + 1) = outp self r rd rep b f i ++ (if askd r (f i) then msg self r rd rep (b + 1 + i) (.slice (f i).sa (f i).sl (f i).sc) (f i).org else [])) := rfl
      generalize f i = x at *
      obtain ⟨ch, vt, org, sa, sl, sc⟩ := x
      simp only at hvi c3 c8 hsl hcn hon
      go_wp2_with fail
      cases ch with
      | true =>
        go_quiet (fail)
        go_wp2
        go_roundg (n - (i + 1))
        case measure => omega
        case rel =>
          refine ⟨i + 1, by omega, by omega, by go_num, ?_⟩
          have e : askd r ⟨true, vt, org, sa, sl, sc⟩ = false := rfl
          rw [e] at hcn hon
          refine ⟨⟨v, hNr.out, ?_⟩, ho.out, ht.out, hp.out, hsz, hblk.out⟩
          rw [hcn.out, hon.out, if_neg (by simp), if_neg (by simp), Nat.add_zero, List.append_nil]
          exact hown.out
      | false =>
        cases ha : (bits BinOp.and IntKind.u64 vt (IntKind.u64.wrap (2 ^ min r.toNat 64)) == 0) with
        | false =>
          have e : Hid (askd r ⟨false, vt, org, sa, sl, sc⟩ = false) := by show _ = _; simp only [askd, ha]; rfl
          go_quiet (fail)
          go_wp2
          go_roundg (n - (i + 1))
          case measure => omega
          case rel =>
            refine ⟨i + 1, by omega, by omega, by go_num, ?_⟩
            rw [e.out] at hcn hon
            refine ⟨⟨v, hNr.out, ?_⟩, ho.out, ht.out, hp.out, hsz, hblk.out⟩
            rw [hcn.out, hon.out, if_neg (by simp), if_neg (by simp), Nat.add_zero, List.append_nil]
            exact hown.out
        | true =>
          have e : Hid (askd r ⟨false, vt, org, sa, sl, sc⟩ = true) := by show _ = _; simp only [askd, ha]; rfl
          have hck : cnt r f i ≤ 2000 := by have := cnt_le r f i; omega
          go_quiet (fail)
          go_wp2_with (first
            | (go_at_call 7
               refine (acc_any N M (pb i) self b (b + 1 + n) rd rep r (b + 1 + i) (if inb then v else .slice none 0 0) (if inb then .slice none 0 0 else v) false vt org sa sl sc _ ?hn ?hs).mono ?_
               case hn => exact NodeIs.same hNr.out rfl
               case hs => exact hsl.out
               rintro e1 wa ⟨rfl, hba⟩
               replace hba := hide hba)
            | (go_at_call 6
               refine (send_any w.heap.size N M self b (b + 1 + n) rd rep (b + 1 + i) r inb v org sa sl sc (cnt r f i) (outp self r rd rep b f i) _ hto ?hn ?hs hck ?hz hNl).mono ?_
               case hn => exact NodeIs.same hNr.out (hba.out.block N hNlr)
               case hs => exact ownsRow_keep hown.out (fun g hg => hba.out.block g (hown.out.lt g hg).2)
               case hz => exact Nat.le_trans hsz hba.out.size
               rintro e2 wb ⟨rfl, v', hN', hS'⟩
               replace hN' := hide hN'
               replace hS' := hide hS'))
          go_roundg (n - (i + 1))
          case measure => omega
          case rel =>
            refine ⟨i + 1, by omega, by omega, by go_num, ?_⟩
            rw [e.out] at hcn hon
            obtain ⟨s1, s2, s3, s4, s5, s6⟩ := hS'.out
            refine ⟨⟨v', hN'.out, ?_⟩, s2.trans (hba.out.os.trans ho.out), s3.trans (hba.out.tape.trans ht.out), s4.trans (hba.out.output.trans hp.out), Nat.le_trans hsz (Nat.le_trans hba.out.size s5), fun j hj hjN => ?_⟩
            · rw [hcn.out, hon.out, if_pos rfl, if_pos rfl]
              exact s1
            · rw [s6 j (Nat.lt_of_lt_of_le hj (Nat.le_trans hsz hba.out.size)) hjN (fun h => by have := (hown.out.lt j h.symm).1; omega), hba.out.block j (Nat.lt_of_lt_of_le hj hsz)]
              exact hblk.out j hj hjN
    · have hin : i = n := by omega
      subst hin
      go_wp2
      go_end0
      exact ⟨rfl, ⟨v, hNr.out, hown.out⟩, ho.out, ht.out, hp.out, hsz, hblk.out⟩
end Go.Proofs.Ybulkbdju
