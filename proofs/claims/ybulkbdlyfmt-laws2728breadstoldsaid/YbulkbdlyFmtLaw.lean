/- LawS2728BReads, walked. -/
import Derived.Test.YbulkbdlyFmtWire
import Derived.Laws.Bits64b
namespace Go.Proofs.YbulkbdlyFmt
open Go.RowKit Go.Extern.Stop Go.Stop Go.Extern

/-! ### The plain law -/
theorem or_add (m a x : Nat) (hx : x < 2 ^ m) : (a * 2 ^ m) ||| x = a * 2 ^ m + x := by
  rw [← Nat.shiftLeft_eq, Nat.shiftLeft_add_eq_or_of_lt hx]
theorem bits_lo (a x : Int) (ha : 0 ≤ a) (ha' : a < 72057594037927936) (hx : 0 ≤ x) (hx' : x < 256) : bits .or .u64 (a * 256) x = a * 256 + x := by
  obtain ⟨A, rfl⟩ := Int.eq_ofNat_of_zero_le ha
  obtain ⟨X, rfl⟩ := Int.eq_ofNat_of_zero_le hx
  have h := bits_or_u64_nat (A * 256) X (by omega) (by omega)
  have e := or_add 8 A X (by omega)
  rw [show (2 : Nat) ^ 8 = 256 from rfl] at e
  rw [e] at h
  rw [show ((A * 256 : Nat) : Int) = (A : Int) * 256 by omega] at h
  rw [h]; omega
theorem bits_hi (m P : Nat) (hP : P = 2 ^ m) (x y : Int) (h0 : 0 ≤ x) (hx : x < P) (hy : 0 ≤ y) (hy' : y < 256) (hb : 256 * P ≤ 18446744073709551616) : bits .or .u64 x (y * P) = x + y * P := by
  obtain ⟨X, rfl⟩ := Int.eq_ofNat_of_zero_le h0
  obtain ⟨Y, rfl⟩ := Int.eq_ofNat_of_zero_le hy
  have hYP : Y * P ≤ 255 * P := Nat.mul_le_mul_right P (by omega)
  have h := bits_or_u64_nat X (Y * P) (by omega) (by omega)
  have e := or_add m Y X (by omega)
  rw [← hP, Nat.or_comm] at e
  rw [e] at h
  rw [show ((Y * P : Nat) : Int) = (Y : Int) * P by simp] at h
  rw [h]
  simp
  omega
/-- The first k bytes as a number, high first. -/
def val (f : Nat → Int) : Nat → Int
  | 0 => 0
  | k + 1 => val f k * 256 + f k
theorem val_range (f : Nat → Int) : ∀ k, (∀ j, j < k → 0 ≤ f j ∧ f j < 256) → 0 ≤ val f k ∧ val f k < 256 ^ k
  | 0, _ => by simp [val]
  | k + 1, h => by
    have ih := val_range f k (fun j hj => h j (by omega))
    have hk := h k (by omega)
    simp only [val]
    rw [Int.pow_succ]
    omega
theorem val_lt (f : Nat → Int) {k : Nat} (hk : k < 8) (h : ∀ j, j < 8 → 0 ≤ f j ∧ f j < 256) : 0 ≤ val f k ∧ val f k < 72057594037927936 := by
  have hv := val_range f k (fun j hj => h j (by omega))
  have hk8 : k = 0 ∨ k = 1 ∨ k = 2 ∨ k = 3 ∨ k = 4 ∨ k = 5 ∨ k = 6 ∨ k = 7 := by omega
  rcases hk8 with rfl | rfl | rfl | rfl | rfl | rfl | rfl | rfl <;> omega
theorem be_val (f : Nat → Int) (h : ∀ j, j < 8 → 0 ≤ f j ∧ f j < 256) : be (f 0) (f 1) (f 2) (f 3) (f 4) (f 5) (f 6) (f 7) = val f 8 := by
  have h0 := h 0 (by omega)
  have h1 := h 1 (by omega)
  have h2 := h 2 (by omega)
  have h3 := h 3 (by omega)
  have h4 := h 4 (by omega)
  have h5 := h 5 (by omega)
  have h6 := h 6 (by omega)
  have h7 := h 7 (by omega)
  simp only [be, val]
  have e1 := bits_hi 8 256 (by decide) (f 7) (f 6) (by omega) (by omega) (by omega) (by omega) (by omega)
  simp only [Int.cast_ofNat_Int] at e1
  rw [e1]
  have e2 := bits_hi 16 65536 (by decide) (f 7 + f 6 * 256) (f 5) (by omega) (by omega) (by omega) (by omega) (by omega)
  simp only [Int.cast_ofNat_Int] at e2
  rw [e2]
  have e3 := bits_hi 24 16777216 (by decide) (f 7 + f 6 * 256 + f 5 * 65536) (f 4) (by omega) (by omega) (by omega) (by omega) (by omega)
  simp only [Int.cast_ofNat_Int] at e3
  rw [e3]
  have e4 := bits_hi 32 4294967296 (by decide) (f 7 + f 6 * 256 + f 5 * 65536 + f 4 * 16777216) (f 3) (by omega) (by omega) (by omega) (by omega) (by omega)
  simp only [Int.cast_ofNat_Int] at e4
  rw [e4]
  have e5 := bits_hi 40 1099511627776 (by decide) (f 7 + f 6 * 256 + f 5 * 65536 + f 4 * 16777216 + f 3 * 4294967296) (f 2) (by omega) (by omega) (by omega) (by omega) (by omega)
  simp only [Int.cast_ofNat_Int] at e5
  rw [e5]
  have e6 := bits_hi 48 281474976710656 (by decide) (f 7 + f 6 * 256 + f 5 * 65536 + f 4 * 16777216 + f 3 * 4294967296 + f 2 * 1099511627776) (f 1) (by omega) (by omega) (by omega) (by omega) (by omega)
  simp only [Int.cast_ofNat_Int] at e6
  rw [e6]
  have e7 := bits_hi 56 72057594037927936 (by decide) (f 7 + f 6 * 256 + f 5 * 65536 + f 4 * 16777216 + f 3 * 4294967296 + f 2 * 1099511627776 + f 1 * 281474976710656) (f 0) (by omega) (by omega) (by omega) (by omega) (by omega)
  simp only [Int.cast_ofNat_Int] at e7
  rw [e7]
  omega

/-! ### The walk -/
theorem as32 (x : Value) (w : World) : (Instr.typeAssert (.iface 32 x) 25 32 true).run Ybaf.prog w = .ok (.tuple #[x, .bool true]) w := by kernel_rfl
theorem answers_below {F : Interp} {B : Nat} {w w' : World} (h : F.answers w.tape) (hb : Below B w w') : F.answers w'.tape := by rw [hb.tape]; exact h

set_option maxRecDepth 100000 in
set_option maxHeartbeats 400000 in
theorem law_short (F : Interp) (ao : Option Addr) (b off n c : Nat) (f : Nat → Int) (w : World) (hF : F.answers w.tape) (hn : n < 8) (z : ao = none → n = 0) (hao : 0 < n → ao = some ⟨b, off, none⟩)
    (hc : ∀ j, j < n → w.cell? ⟨b, off + j, none⟩ = some (.int .u8 (f j))) :
    Calls Ybaf.prog 3 #[.slice ao n c, .bool false] w fun e w' => e = .returned (.bool true) ∧ Below w.heap.size w w' := by
  have hC := hide hc
  have hq := as32
  have ln : decide ((1024 : Int) < (n : Int)) = false := by simp; omega
  have l8 : decide ((n : Int) < 8) = true := by simp; omega
  clear hc
  go_enter Ybaf.func3, Ybaf.ntmps3
  go_wp2_with (first
    | (go_at_call 5
       refine (copy_any ao b off n c f _ (by omega) z hao hC.out).mono ?_
       rintro e w1 ⟨a, g, rfl, h1⟩
       replace h1 := hide h1)
    | (go_at_call 7; go_loud (
       refine (u64_short F _ a n n _ (answers_below hF (h1.out.below.alloc (h1.out.below.size) _)) hn ⟨heap_alloc_new _ _⟩).mono ?_
       rintro e w3 ⟨rfl, hd, hb⟩
       have d0 := hd.buf
       have d1 := hd.err
       have dl := hd.lt
       have hb' : Hid (Below w.heap.size w w3) := (h1.out.below.alloc (h1.out.below.size) _).trans (hb.mono h1.out.below.size)
       clear hd hb)))
  go_ret
  exact ⟨rfl, hb'.out⟩

set_option maxRecDepth 100000 in
set_option maxHeartbeats 400000 in
theorem law_preset (ao : Option Addr) (b off n c : Nat) (f : Nat → Int) (w : World) (hn : n ≤ 1024) (z : ao = none → n = 0) (hao : 0 < n → ao = some ⟨b, off, none⟩)
    (hc : ∀ j, j < n → w.cell? ⟨b, off + j, none⟩ = some (.int .u8 (f j))) :
    Calls Ybaf.prog 3 #[.slice ao n c, .bool true] w fun e w' => e = .returned (.bool true) ∧ Below w.heap.size w w' := by
  have hC := hide hc
  have ln : decide ((1024 : Int) < (n : Int)) = false := by simp; omega
  clear hc
  go_enter Ybaf.func3, Ybaf.ntmps3
  go_wp2_with (first
    | (go_at_call 5
       refine (copy_any ao b off n c f _ hn z hao hC.out).mono ?_
       rintro e w1 ⟨a, g, rfl, h1⟩
       replace h1 := hide h1)
    | (go_at_call 6
       refine (new_any _ _).mono ?_
       rintro e w2 ⟨rfl, hw2⟩
       have h2 : Hid (Below w.heap.size w w2) := by rw [hw2]; exact h1.out.below.alloc (h1.out.below.size) _
       clear hw2)
    | (go_at_call 7
       refine (u64_failed _ (.slice a n n) 39 _ _ ⟨heap_alloc_new _ _⟩).mono ?_
       rintro e w3 ⟨rfl, hw3⟩
       have hd : Dec w3 w2.heap.size (.slice a n n) (.iface 39 (.pointer (some ⟨w1.heap.size, 0, none⟩))) := ⟨by rw [hw3]; exact heap_alloc_new _ _⟩
       have d0 := hd.buf
       have d1 := hd.err
       have dl := hd.lt
       have hq := eq25 ⟨w1.heap.size, 0, none⟩ w3
       have hb : Hid (Below w.heap.size w w3) := by rw [hw3]; exact h2.out.alloc (h2.out.size) _
       clear hw3 hd))
  go_ret
  exact ⟨rfl, hb.out⟩
end Go.Proofs.YbulkbdlyFmt
