/- THE PLAIN LAW of LawS2723BModel: no Go in sight. -/
namespace Go.Proofs.YbulkbdjgDoor
namespace PlainB

/-- What the law's own rule says: the cut of lane ra decides; none: true. -/
def want (ra ln : Int) (es : List (Int × Int)) : Bool := es.foldl (fun b e => if e.1 == ra then decide (ln ≤ e.2) else b) true

theorem fold_none (ra ln : Int) : ∀ (es : List (Int × Int)) (b : Bool), (∀ e, e ∈ es → e.1 ≠ ra) → es.foldl (fun b e => if e.1 == ra then decide (ln ≤ e.2) else b) b = b
  | [], _, _ => rfl
  | x :: xs, b, h => by
    have hx := h x (List.mem_cons_self)
    rw [List.foldl_cons, beq_eq_false_iff_ne.2 hx]
    exact fold_none ra ln xs b (fun e he => h e (List.mem_cons_of_mem _ he))

theorem want_none {ra ln : Int} {es : List (Int × Int)} (h : ∀ e, e ∈ es → e.1 ≠ ra) : want ra ln es = true := fold_none ra ln es true h

theorem fold_mem (ra ln : Int) : ∀ (es : List (Int × Int)) (b : Bool) (e : Int × Int), es.Pairwise (fun a b => a.1 ≠ b.1) → e ∈ es → e.1 = ra → es.foldl (fun b e => if e.1 == ra then decide (ln ≤ e.2) else b) b = decide (ln ≤ e.2)
  | [], _, _, _, h, _ => by cases h
  | x :: xs, b, e, hp, he, h1 => by
    rw [List.pairwise_cons] at hp
    rw [List.foldl_cons]
    rcases List.mem_cons.1 he with rfl | hm
    · rw [beq_iff_eq.2 h1]
      exact fold_none ra ln xs _ (fun e' he' => by rw [← h1]; exact fun q => hp.1 e' he' q.symm)
    · exact fold_mem ra ln xs _ e hp.2 hm h1

theorem want_mem {ra ln : Int} {es : List (Int × Int)} {e : Int × Int} (hp : es.Pairwise (fun a b => a.1 ≠ b.1)) (he : e ∈ es) (h1 : e.1 = ra) : want ra ln es = decide (ln ≤ e.2) := fold_mem ra ln es true e hp he h1

theorem want_take (ra ln : Int) (es : List (Int × Int)) (k : Nat) (h : k < es.length) : want ra ln (es.take (k + 1)) = if es[k].1 == ra then decide (ln ≤ es[k].2) else want ra ln (es.take k) := by
  unfold want
  rw [List.take_succ_eq_append_getElem h, List.foldl_append]
  rfl

/-- The table's n slots hold just es, and empty slots. -/
structure Tab (tab : Nat → Int × Int) (n : Nat) (es : List (Int × Int)) : Prop where
  has : ∀ e, e ∈ es → ∃ j, j < n ∧ tab j = e
  only : ∀ j, j < n → (tab j).1 = -1 ∨ tab j ∈ es

theorem hit_of {tab : Nat → Int × Int} {n : Nat} {es : List (Int × Int)} {ra ln : Int} (h : Tab tab n es) (hp : es.Pairwise (fun a b => a.1 ≠ b.1)) (hra : 0 ≤ ra) {j : Nat} (hj : j < n) (h1 : (tab j).1 = ra) : want ra ln es = decide (ln ≤ (tab j).2) := by
  rcases h.only j hj with q | q
  · omega
  · exact want_mem hp q h1

theorem scan_ok {tab : Nat → Int × Int} {n : Nat} {es : List (Int × Int)} {ra ln : Int} {b : Bool} (h : Tab tab n es) (hp : es.Pairwise (fun a b => a.1 ≠ b.1)) (hra : 0 ≤ ra)
    (hs : (∃ j, j < n ∧ (tab j).1 = ra ∧ b = decide (ln ≤ (tab j).2) ∧ ∀ i, i < j → (tab i).1 ≠ ra) ∨ ((∀ j, j < n → (tab j).1 ≠ ra) ∧ b = true)) : b = want ra ln es := by
  rcases hs with ⟨j, hj, h1, rfl, _⟩ | ⟨hn, rfl⟩
  · exact (hit_of h hp hra hj h1).symm
  · refine (want_none fun e he q => ?_).symm
    obtain ⟨j, hj, hje⟩ := h.has e he
    exact hn j hj (by rw [hje]; exact q)

theorem dense_ok {tab : Nat → Int × Int} {n : Nat} {es : List (Int × Int)} {ra ln lo : Int} {b : Bool} (h : Tab tab n es) (hp : es.Pairwise (fun a b => a.1 ≠ b.1)) (hra : 0 ≤ ra)
    (hpos : ∀ j, j < n → tab j ∈ es → (tab j).1 = lo + j)
    (hs : ((ra < lo ∨ lo + n ≤ ra) ∧ b = true) ∨ (∃ j, j < n ∧ ra = lo + j ∧ (((tab j).1 ≠ ra ∧ b = true) ∨ ((tab j).1 = ra ∧ b = decide (ln ≤ (tab j).2))))) : b = want ra ln es := by
  rcases hs with ⟨hout, rfl⟩ | ⟨j, hj, hr, ⟨hne, rfl⟩ | ⟨he, rfl⟩⟩
  · refine (want_none fun e he q => ?_).symm
    obtain ⟨j, hj, hje⟩ := h.has e he
    have := hpos j hj (by rw [hje]; exact he)
    rw [hje] at this
    omega
  · refine (want_none fun e he q => ?_).symm
    obtain ⟨i, hi, hie⟩ := h.has e he
    have := hpos i hi (by rw [hie]; exact he)
    rw [hie] at this
    have hij : i = j := by omega
    subst hij
    exact hne (by rw [hie]; exact q)
  · exact (hit_of h hp hra hj he).symm

/-- THE HASHED TABLE: from where its lane is first looked for, each cut is come to over slots that are not empty. -/
structure Hashed (h : Int → Nat) (tab : Nat → Int × Int) (es : List (Int × Int)) : Prop where
  reach : ∀ e, e ∈ es → ∃ d, d < 64 ∧ tab ((h e.1 + d) % 64) = e ∧ ∀ d', d' < d → (tab ((h e.1 + d') % 64)).1 ≠ -1
  only : ∀ j, j < 64 → (tab j).1 = -1 ∨ tab j ∈ es

theorem least {p : Nat → Prop} [DecidablePred p] : ∀ (n : Nat), p n → ∃ m, m ≤ n ∧ p m ∧ ∀ k, k < m → ¬ p k
  | 0, h => ⟨0, Nat.le_refl _, h, fun k hk => absurd hk (Nat.not_lt_zero k)⟩
  | n + 1, h => by
    by_cases h0 : ∃ m, m ≤ n ∧ p m
    · obtain ⟨m, hm, hpm⟩ := h0
      obtain ⟨q, hq, a, b⟩ := least (p := p) m hpm
      exact ⟨q, by omega, a, b⟩
    · exact ⟨n + 1, Nat.le_refl _, h, fun k hk hk2 => h0 ⟨k, by omega, hk2⟩⟩

theorem hash_stop {tab : Nat → Int × Int} {g : Nat} (hg : g < 64) (ra : Int) {j : Nat} (hj : j < 64) (he : (tab j).1 = -1) :
    ∃ dd, dd < 64 ∧ (∀ k, k < dd → (tab ((g + k) % 64)).1 ≠ ra ∧ (tab ((g + k) % 64)).1 ≠ -1) ∧ ((tab ((g + dd) % 64)).1 = ra ∨ (tab ((g + dd) % 64)).1 = -1) := by
  have h0 : (tab ((g + (j + 64 - g) % 64) % 64)).1 = ra ∨ (tab ((g + (j + 64 - g) % 64) % 64)).1 = -1 := by
    right
    rw [show (g + (j + 64 - g) % 64) % 64 = j by omega]
    exact he
  obtain ⟨m, hm, a, b⟩ := least (p := fun k => (tab ((g + k) % 64)).1 = ra ∨ (tab ((g + k) % 64)).1 = -1) _ h0
  refine ⟨m, by omega, fun k hk => ?_, a⟩
  have := b k hk
  exact ⟨fun q => this (Or.inl q), fun q => this (Or.inr q)⟩

theorem hash_ok {h : Int → Nat} {tab : Nat → Int × Int} {es : List (Int × Int)} {ra ln : Int} {b : Bool} {dd : Nat} (H : Hashed h tab es) (hp : es.Pairwise (fun a b => a.1 ≠ b.1)) (hra : 0 ≤ ra) (_hdd : dd < 64)
    (hb : ∀ k, k < dd → (tab ((h ra + k) % 64)).1 ≠ ra ∧ (tab ((h ra + k) % 64)).1 ≠ -1) (hend : (tab ((h ra + dd) % 64)).1 = ra ∨ (tab ((h ra + dd) % 64)).1 = -1)
    (hs : ((tab ((h ra + dd) % 64)).1 = ra ∧ b = decide (ln ≤ (tab ((h ra + dd) % 64)).2)) ∨ ((tab ((h ra + dd) % 64)).1 ≠ ra ∧ b = true)) : b = want ra ln es := by
  rcases hs with ⟨h1, rfl⟩ | ⟨h1, rfl⟩
  · rcases H.only ((h ra + dd) % 64) (Nat.mod_lt _ (by omega)) with q | q
    · omega
    · exact (want_mem hp q h1).symm
  · refine (want_none fun e he q => ?_).symm
    have hm : (tab ((h ra + dd) % 64)).1 = -1 := by
      rcases hend with z | z
      · exact absurd z h1
      · exact z
    obtain ⟨d, _, hd, hbefore⟩ := H.reach e he
    rw [q] at hd hbefore
    rcases Nat.lt_trichotomy d dd with z | z | z
    · exact (hb d z).1 (by rw [hd]; exact q)
    · subst z; exact h1 (by rw [hd]; exact q)
    · exact hbefore dd z hm

/-- One more cut laid into the first empty slot on its way. -/
theorem Hashed.put {h : Int → Nat} {T : List (Int × Int)} {es : List (Int × Int)} {e : Int × Int} {d : Nat} (H : Hashed h (fun j => T.getD j (-1, 0)) es) (hT : T.length = 64) (hd : d < 64) (he : e.1 ≠ -1)
    (hem : (T.getD ((h e.1 + d) % 64) (-1, 0)).1 = -1) (hbe : ∀ d', d' < d → (T.getD ((h e.1 + d') % 64) (-1, 0)).1 ≠ -1) :
    (∀ x, x ∈ es → x.1 ≠ -1) → Hashed h (fun j => (T.set ((h e.1 + d) % 64) e).getD j (-1, 0)) (es ++ [e]) := by
  intro hnn
  have hlt : (h e.1 + d) % 64 < T.length := by rw [hT]; exact Nat.mod_lt _ (by omega)
  have same : (T.set ((h e.1 + d) % 64) e).getD ((h e.1 + d) % 64) (-1, 0) = e := by
    rw [List.getD_eq_getElem?_getD, List.getElem?_set_self hlt]; rfl
  have other : ∀ j, (h e.1 + d) % 64 ≠ j → (T.set ((h e.1 + d) % 64) e).getD j (-1, 0) = T.getD j (-1, 0) := fun j hj => by
    rw [List.getD_eq_getElem?_getD, List.getElem?_set_ne hj, ← List.getD_eq_getElem?_getD]
  have keep : ∀ j, (T.getD j (-1, 0)).1 ≠ -1 → ((T.set ((h e.1 + d) % 64) e).getD j (-1, 0)).1 ≠ -1 := fun j hj => by
    by_cases q : (h e.1 + d) % 64 = j
    · rw [← q, same]; exact he
    · rw [other j q]; exact hj
  refine ⟨fun x hx => ?_, fun j hj => ?_⟩
  · rcases List.mem_append.1 hx with hx | hx
    · obtain ⟨d1, h1, h2, h3⟩ := H.reach x hx
      refine ⟨d1, h1, ?_, fun d' hd' => keep _ (h3 d' hd')⟩
      have hne : (h e.1 + d) % 64 ≠ (h x.1 + d1) % 64 := fun q => by
        rw [← q] at h2
        rw [h2] at hem
        exact hnn x hx hem
      rw [other _ hne]; exact h2
    · simp at hx
      subst hx
      exact ⟨d, hd, same, fun d' hd' => keep _ (hbe d' hd')⟩
  · by_cases q : (h e.1 + d) % 64 = j
    · right; simp only [← q, same]; simp
    · simp only [other j q]
      rcases H.only j hj with z | z
      · exact Or.inl z
      · exact Or.inr (List.mem_append.2 (Or.inl z))

/-- How many slots are empty. -/
def empties (T : List (Int × Int)) : Nat := T.countP (fun c => c.1 == -1)
theorem empties_set {T : List (Int × Int)} {e : Int × Int} {i : Nat} (hi : i < T.length) (hem : (T.getD i (-1, 0)).1 = -1) (he : e.1 ≠ -1) : empties (T.set i e) + 1 = empties T := by
  unfold empties
  have h1 : T.getD i (-1, 0) = T[i] := by simp [List.getD, hi]
  rw [h1] at hem
  have hpos : 0 < T.countP (fun c => c.1 == -1) := List.countP_pos_iff.2 ⟨T[i], List.getElem_mem hi, by simp [hem]⟩
  rw [List.countP_set hi]
  simp [hem, he]
  omega
theorem empties_has {T : List (Int × Int)} (h : 0 < empties T) : ∃ j, j < T.length ∧ (T.getD j (-1, 0)).1 = -1 := by
  obtain ⟨x, hx, hp⟩ := List.countP_pos_iff.1 h
  obtain ⟨j, hj, rfl⟩ := List.mem_iff_getElem.1 hx
  exact ⟨j, hj, by simpa [List.getD, hj] using hp⟩
theorem empties_rep (n : Nat) : empties (List.replicate n ((-1 : Int), (0 : Int))) = n := by
  unfold empties; rw [List.countP_replicate]; simp
theorem getD_rep (n j : Nat) : (List.replicate n ((-1 : Int), (0 : Int))).getD j (-1, 0) = (-1, 0) := by
  rw [List.getD_eq_getElem?_getD, List.getElem?_replicate]; split <;> rfl
theorem hashed_start (h : Int → Nat) : Hashed h (fun j => (List.replicate 64 ((-1 : Int), (0 : Int))).getD j (-1, 0)) [] :=
  ⟨fun e he => absurd he (by simp), fun j _ => Or.inl (by simp only [getD_rep])⟩

/-- THE DENSE TABLE: lane lo + j in slot j. -/
structure DenseT (lo : Int) (T : List (Int × Int)) (es : List (Int × Int)) : Prop where
  has : ∀ e, e ∈ es → ∃ j : Nat, j < T.length ∧ T.getD j (-1, 0) = e ∧ e.1 = lo + j
  only : ∀ j, j < T.length → (T.getD j (-1, 0)).1 = -1 ∨ T.getD j (-1, 0) ∈ es
  pos : ∀ j : Nat, j < T.length → T.getD j (-1, 0) ∈ es → (T.getD j (-1, 0)).1 = lo + j
theorem dense_start (lo : Int) (n : Nat) : DenseT lo (List.replicate n ((-1 : Int), (0 : Int))) [] :=
  ⟨fun e he => absurd he (by simp), fun j _ => Or.inl (by simp only [getD_rep]), fun j _ h => absurd h (by simp)⟩
theorem DenseT.put {lo : Int} {T es : List (Int × Int)} {e : Int × Int} {i : Nat} (H : DenseT lo T es) (hi : i < T.length) (h1 : e.1 = lo + i) (he : e.1 ≠ -1) (hnew : ∀ x, x ∈ es → x.1 ≠ e.1) : DenseT lo (T.set i e) (es ++ [e]) := by
  have same : (T.set i e).getD i (-1, 0) = e := by rw [List.getD_eq_getElem?_getD, List.getElem?_set_self hi]; rfl
  have other : ∀ j, i ≠ j → (T.set i e).getD j (-1, 0) = T.getD j (-1, 0) := fun j hj => by
    rw [List.getD_eq_getElem?_getD, List.getElem?_set_ne hj, ← List.getD_eq_getElem?_getD]
  refine ⟨fun x hx => ?_, fun j hj => ?_, fun j hj hm => ?_⟩
  · rcases List.mem_append.1 hx with hx | hx
    · obtain ⟨j, a, b, c⟩ := H.has x hx
      have hne : i ≠ j := fun q => hnew x hx (by rw [c, h1, q])
      exact ⟨j, by simpa using a, by rw [other j hne]; exact b, c⟩
    · simp at hx
      subst hx
      exact ⟨i, by simpa using hi, same, h1⟩
  · by_cases q : i = j
    · right; rw [← q, same]; simp
    · rw [other j q]
      rcases H.only j (by simpa using hj) with z | z
      · exact Or.inl z
      · exact Or.inr (List.mem_append.2 (Or.inl z))
  · by_cases q : i = j
    · rw [← q, same]; exact h1
    · rw [other j q] at hm ⊢
      rcases List.mem_append.1 hm with z | z
      · exact H.pos j (by simpa using hj) z
      · have z := List.mem_singleton.1 z
        rcases H.only j (by simpa using hj) with y | y
        · rw [z] at y; exact absurd y he
        · exact absurd (by rw [z]) (hnew _ y)
theorem DenseT.tab {lo : Int} {T es : List (Int × Int)} (H : DenseT lo T es) : Tab (fun j => T.getD j (-1, 0)) T.length es :=
  ⟨fun e he => by obtain ⟨j, a, b, _⟩ := H.has e he; exact ⟨j, a, b⟩, H.only⟩
/-- The least lane and a bound on the greatest. -/
def LoHi (es : List (Int × Int)) (lo hi : Int) : Prop := (∃ e, e ∈ es ∧ e.1 = lo) ∧ (∀ e, e ∈ es → lo ≤ e.1 ∧ e.1 ≤ hi) ∧ 0 ≤ lo ∧ hi < 64
theorem LoHi.one {e : Int × Int} (h0 : 0 ≤ e.1) (h1 : e.1 < 64) : LoHi [e] e.1 e.1 := ⟨⟨e, by simp, rfl⟩, fun x hx => by simp at hx; subst hx; omega, h0, h1⟩
theorem LoHi.step {es : List (Int × Int)} {lo hi lo' hi' : Int} {e : Int × Int} (H : LoHi es lo hi) (h0 : 0 ≤ e.1) (h1 : e.1 < 64) (hl : (e.1 < lo ∧ lo' = e.1) ∨ (¬ e.1 < lo ∧ lo' = lo)) (hh : (hi < e.1 ∧ hi' = e.1) ∨ (¬ hi < e.1 ∧ hi' = hi)) : LoHi (es ++ [e]) lo' hi' := by
  obtain ⟨⟨x, hx, hxl⟩, hall, hlo, hhi⟩ := H
  refine ⟨?_, fun y hy => ?_, by omega, by omega⟩
  · rcases hl with ⟨_, rfl⟩ | ⟨_, rfl⟩
    · exact ⟨e, by simp, rfl⟩
    · exact ⟨x, by simp [hx], hxl⟩
  · rcases List.mem_append.1 hy with hy | hy
    · have := hall y hy; omega
    · simp at hy; subst hy; omega
theorem dense_first {lo hi : Int} {T es : List (Int × Int)} (H : DenseT lo T es) (hl : LoHi es lo hi) : (T.getD 0 (-1, 0)).1 = lo := by
  obtain ⟨e, he, h1⟩ := hl.1
  obtain ⟨j, _, hj, h2⟩ := H.has e he
  have : j = 0 := by omega
  subst this
  rw [hj]; exact h1
theorem row_tab (es : List (Int × Int)) : Tab (fun j => es.getD j (-1, 0)) es.length es :=
  ⟨fun e he => by
    obtain ⟨j, hj, rfl⟩ := List.mem_iff_getElem.1 he
    exact ⟨j, hj, by simp [List.getD, hj]⟩, fun j hj => Or.inr (by rw [List.getD_eq_getElem?_getD, List.getElem?_eq_getElem hj]; exact List.getElem_mem hj)⟩
end PlainB
end Go.Proofs.YbulkbdjgDoor
