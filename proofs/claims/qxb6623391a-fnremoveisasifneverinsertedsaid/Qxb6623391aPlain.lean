/- The plain law, with no Go in sight: taking one entry out of a linear-probing table by shifting back leaves what inserting all others afresh leaves. Places are told round from an empty slot: 1 .. N; place N is the empty slot itself. -/
namespace Go.Proofs.Qxb6623391a.Pl

/-- Where the hole lies when the places up to t have been gone through (0: there is none yet). -/
def hol (kk : Nat → Nat) (oc : Nat → Bool) (r : Nat) : Nat → Nat
  | 0 => 0
  | t + 1 => if t + 1 = r then r else if oc (t + 1) = true ∧ kk (t + 1) ≤ hol kk oc r t then t + 1 else hol kk oc r t

/-- Which place's entry lies at s by then. -/
def src (kk : Nat → Nat) (oc : Nat → Bool) (r : Nat) : Nat → Nat → Nat
  | 0, s => s
  | t + 1, s => if (t + 1 ≠ r ∧ oc (t + 1) = true ∧ kk (t + 1) ≤ hol kk oc r t) ∧ s = hol kk oc r t then t + 1 else src kk oc r t s

structure Lin (N r : Nat) (kk : Nat → Nat) (oc : Nat → Bool) : Prop where
  r1 : 1 ≤ r
  rN : r ≤ N
  ocr : oc r = true
  ocN : oc N = false
  k1 : ∀ t, 1 ≤ t → t ≤ N → oc t = true → 1 ≤ kk t
  kt : ∀ t, 1 ≤ t → t ≤ N → oc t = true → kk t ≤ t
  run : ∀ t, 1 ≤ t → t ≤ N → oc t = true → ∀ u, kk t ≤ u → u ≤ t → oc u = true

variable {N r : Nat} {kk : Nat → Nat} {oc : Nat → Bool}

theorem Lin.rlt (L : Lin N r kk oc) : r < N := by
  have h1 := L.rN
  have h2 := L.ocr
  have h3 := L.ocN
  refine Nat.lt_of_le_of_ne h1 fun e => ?_
  rw [e, h3] at h2
  cases h2

theorem Lin.tlt (L : Lin N r kk oc) {t : Nat} (ht : t ≤ N) (h : oc t = true) : t < N := by
  have h3 := L.ocN
  refine Nat.lt_of_le_of_ne ht fun e => ?_
  rw [e, h3] at h
  cases h

theorem hol_le (t : Nat) : hol kk oc r t ≤ t := by
  induction t with
  | zero => exact Nat.le_refl _
  | succ t ih =>
    unfold hol
    split
    · omega
    · split
      · omega
      · omega

theorem hol_before (t : Nat) (h : t < r) (L : Lin N r kk oc) : hol kk oc r t = 0 := by
  induction t with
  | zero => rfl
  | succ t ih =>
    have ih := ih (by omega)
    unfold hol
    rw [if_neg (by omega), ih, if_neg]
    rintro ⟨a, b⟩
    have := L.k1 (t + 1) (by omega) (by have := L.rN; omega) a
    omega

theorem hol_at (L : Lin N r kk oc) : hol kk oc r r = r := by
  have h1 := L.r1
  obtain ⟨q, rfl⟩ : ∃ q, r = q + 1 := ⟨r - 1, by omega⟩
  rw [hol, if_pos rfl]

theorem hol_from (L : Lin N r kk oc) (t : Nat) (h : r ≤ t) : r ≤ hol kk oc r t := by
  induction t with
  | zero => have := L.r1; omega
  | succ t ih =>
    unfold hol
    split
    · omega
    · have ih := ih (by omega)
      split
      · omega
      · exact ih

theorem hol_oc (L : Lin N r kk oc) (t : Nat) (h : r ≤ t) : oc (hol kk oc r t) = true := by
  induction t with
  | zero => have := L.r1; omega
  | succ t ih =>
    unfold hol
    split
    · exact L.ocr
    · have ih := ih (by omega)
      split
      · rename_i h; exact h.1
      · exact ih

theorem hol_zero_or (L : Lin N r kk oc) (t : Nat) : hol kk oc r t = 0 ∨ oc (hol kk oc r t) = true := by
  by_cases h : t < r
  · exact .inl (hol_before t h L)
  · exact .inr (hol_oc L t (by omega))

theorem src_above (t s : Nat) (h : t < s) : src kk oc r t s = s := by
  induction t with
  | zero => rfl
  | succ t ih =>
    have := hol_le (kk := kk) (oc := oc) (r := r) t
    rw [src, if_neg (by rintro ⟨_, e⟩; omega), ih (by omega)]

theorem src_oc (t s : Nat) (h : oc s = true) : oc (src kk oc r t s) = true := by
  induction t with
  | zero => exact h
  | succ t ih =>
    unfold src
    split
    · rename_i h'; exact h'.1.2.1
    · exact ih

theorem src_empty (L : Lin N r kk oc) (t s : Nat) (ht : t ≤ N) (h : oc s = false) : src kk oc r t s = s := by
  induction t with
  | zero => rfl
  | succ t ih =>
    rw [src, if_neg, ih (by omega)]
    rintro ⟨⟨_, b, c⟩, e⟩
    have hk := L.k1 (t + 1) (by omega) ht b
    rcases hol_zero_or L t with h0 | h0
    · omega
    · rw [← e, h] at h0; cases h0

theorem src_range (t s : Nat) (ht : t ≤ N) (h1 : 1 ≤ s) (h2 : s ≤ N) : 1 ≤ src kk oc r t s ∧ src kk oc r t s ≤ N := by
  induction t with
  | zero => exact ⟨h1, h2⟩
  | succ t ih =>
    unfold src
    split
    · omega
    · exact ih (by omega)

/-- One step: whatever is not an occupied place that the hole can take leaves all as it is. -/
theorem stay (t : Nat) (h1 : t + 1 ≠ r) (h2 : ¬ (oc (t + 1) = true ∧ kk (t + 1) ≤ hol kk oc r t)) : hol kk oc r (t + 1) = hol kk oc r t ∧ ∀ s, src kk oc r (t + 1) s = src kk oc r t s := by
  refine ⟨by rw [hol, if_neg h1, if_neg h2], fun s => ?_⟩
  rw [src, if_neg]
  rintro ⟨⟨_, b, c⟩, _⟩
  exact h2 ⟨b, c⟩

theorem move (t : Nat) (h1 : t + 1 ≠ r) (h2 : oc (t + 1) = true) (h3 : kk (t + 1) ≤ hol kk oc r t) : hol kk oc r (t + 1) = t + 1 ∧ ∀ s, src kk oc r (t + 1) s = if s = hol kk oc r t then t + 1 else src kk oc r t s := by
  refine ⟨by rw [hol, if_neg h1, if_pos ⟨h2, h3⟩], fun s => ?_⟩
  rw [src]
  by_cases e : s = hol kk oc r t
  · rw [if_pos e, if_pos ⟨⟨h1, h2, h3⟩, e⟩]
  · rw [if_neg e, if_neg (fun h => e h.2)]

theorem at_r (L : Lin N r kk oc) (t : Nat) (h : t + 1 = r) : hol kk oc r (t + 1) = t + 1 ∧ hol kk oc r t = 0 ∧ ∀ s, src kk oc r (t + 1) s = src kk oc r t s := by
  refine ⟨by rw [hol, if_pos h, h], hol_before t (by omega) L, fun s => ?_⟩
  rw [src, if_neg]
  rintro ⟨⟨a, _⟩, _⟩
  exact a h

/-- Behind the first empty place past r nothing moves. -/
theorem stop (L : Lin N r kk oc) (c : Nat) (hr : r < c) (hc : oc c = false) (t : Nat) (h1 : c ≤ t + 1) (h2 : t ≤ N) : hol kk oc r t = hol kk oc r (c - 1) ∧ ∀ s, src kk oc r t s = src kk oc r (c - 1) s := by
  induction t with
  | zero => have := L.r1; omega
  | succ t ih =>
    by_cases e : c = t + 2
    · subst e; exact ⟨rfl, fun _ => rfl⟩
    · obtain ⟨i1, i2⟩ := ih (by omega) (by omega)
      have hst := stay (kk := kk) (oc := oc) (r := r) t (by omega) (by
        rintro ⟨a, b⟩
        have hl := hol_le (kk := kk) (oc := oc) (r := r) (c - 1)
        have := L.run (t + 1) (by omega) h2 a c (by omega) (by omega)
        rw [hc] at this
        cases this)
      exact ⟨hst.1.trans i1, fun s => (hst.2 s).trans (i2 s)⟩

/-- The number (or the hash) at place s of the table that is built afresh, when the places up to t have been gone through. -/
def mk (H : Nat → Int) (kk : Nat → Nat) (oc : Nat → Bool) (r : Nat) (t s : Nat) : Int :=
  if s ≤ t then (if s = hol kk oc r t then 0 else H (src kk oc r t s)) else if oc s = true then 0 else H s

/-- Where the entry of place t + 1 goes. -/
def dest (kk : Nat → Nat) (oc : Nat → Bool) (r : Nat) (t : Nat) : Nat := if kk (t + 1) ≤ hol kk oc r t then hol kk oc r t else t + 1

theorem mk_skip_empty (H : Nat → Int) (t : Nat) (h : oc (t + 1) = false) (L : Lin N r kk oc) (s : Nat) : mk H kk oc r (t + 1) s = mk H kk oc r t s := by
  have hr : t + 1 ≠ r := fun e => by have := L.ocr; rw [← e, h] at this; cases this
  obtain ⟨a, b⟩ := stay (kk := kk) (oc := oc) (r := r) t hr (by rw [h]; rintro ⟨x, _⟩; cases x)
  have hl := hol_le (kk := kk) (oc := oc) (r := r) t
  unfold mk
  rw [a, b s]
  by_cases h1 : s ≤ t
  · rw [if_pos h1, if_pos (by omega)]
  · by_cases h2 : s = t + 1
    · subst h2
      rw [if_pos (Nat.le_refl _), if_neg (by omega), if_neg h1, h, src_above t (t + 1) (by omega)]
      simp
    · rw [if_neg h1, if_neg (by omega)]

theorem mk_skip_r (H : Nat → Int) (t : Nat) (h : t + 1 = r) (L : Lin N r kk oc) (s : Nat) (hs : 1 ≤ s) : mk H kk oc r (t + 1) s = mk H kk oc r t s := by
  obtain ⟨a, b, c⟩ := at_r L t h
  unfold mk
  rw [a, b, c s]
  by_cases h1 : s ≤ t
  · rw [if_pos h1, if_pos (by omega), if_neg (by omega), if_neg (by omega)]
  · by_cases h2 : s = t + 1
    · subst h2
      rw [if_pos (Nat.le_refl _), if_pos rfl, if_neg h1, if_pos (by rw [h]; exact L.ocr)]
    · rw [if_neg h1, if_neg (by omega)]

theorem mk_put (H : Nat → Int) (t : Nat) (h1 : t + 1 ≠ r) (h2 : oc (t + 1) = true) (s : Nat) : mk H kk oc r (t + 1) s = if s = dest kk oc r t then H (t + 1) else mk H kk oc r t s := by
  have hl := hol_le (kk := kk) (oc := oc) (r := r) t
  by_cases hk : kk (t + 1) ≤ hol kk oc r t
  · obtain ⟨a, b⟩ := move (kk := kk) (oc := oc) (r := r) t h1 h2 hk
    unfold mk dest
    rw [a, b s, if_pos hk]
    by_cases e : s = hol kk oc r t
    · rw [if_pos e, if_pos (by omega), if_neg (by omega), if_pos e]
    · rw [if_neg e]
      by_cases g : s ≤ t
      · rw [if_pos (show s ≤ t + 1 by omega), if_neg (by omega), if_neg e, if_pos g, if_neg e]
      · by_cases g2 : s = t + 1
        · rw [if_pos (show s ≤ t + 1 by omega), if_pos g2, if_neg e, if_neg g, if_pos (by rw [g2]; exact h2)]
        · rw [if_neg (show ¬ s ≤ t + 1 by omega), if_neg e, if_neg g]
  · obtain ⟨a, b⟩ := stay (kk := kk) (oc := oc) (r := r) t h1 (fun x => hk x.2)
    unfold mk dest
    rw [a, b s, if_neg hk]
    by_cases g : s ≤ t
    · rw [if_pos (show s ≤ t + 1 by omega), if_pos g, if_neg (show ¬ s = t + 1 by omega)]
    · by_cases g2 : s = t + 1
      · subst g2
        rw [if_pos (Nat.le_refl _), if_neg (by omega), if_pos rfl, src_above t (t + 1) (by omega)]
      · rw [if_neg (show ¬ s ≤ t + 1 by omega), if_neg g, if_neg g2]

theorem dest_range (L : Lin N r kk oc) (t : Nat) (ht : t + 1 ≤ N) (h2 : oc (t + 1) = true) : kk (t + 1) ≤ dest kk oc r t ∧ dest kk oc r t ≤ t + 1 ∧ 1 ≤ dest kk oc r t := by
  have hl := hol_le (kk := kk) (oc := oc) (r := r) t
  have a := L.k1 (t + 1) (by omega) ht h2
  have b := L.kt (t + 1) (by omega) ht h2
  unfold dest
  split <;> omega

/-- The probe goes past every place ahead of 'dest' .. -/
theorem mk_full (S : Nat → Int) (hS : ∀ t, oc t = true → S t ≠ 0) (L : Lin N r kk oc) (t : Nat) (ht : t + 1 ≤ N) (h2 : oc (t + 1) = true) (u : Nat) (hu : kk (t + 1) ≤ u) (hd : u < dest kk oc r t) : mk S kk oc r t u ≠ 0 := by
  have hl := hol_le (kk := kk) (oc := oc) (r := r) t
  have hut : u ≤ t := by have := dest_range L t ht h2; omega
  have hn : u ≠ hol kk oc r t := by unfold dest at hd; split at hd <;> omega
  unfold mk
  rw [if_pos hut, if_neg hn]
  exact hS _ (src_oc t u (L.run (t + 1) (by omega) ht h2 u hu (by omega)))

/-- .. and finds 'dest' empty. -/
theorem mk_free (S : Nat → Int) (t : Nat) (h2 : oc (t + 1) = true) : mk S kk oc r t (dest kk oc r t) = 0 := by
  have hl := hol_le (kk := kk) (oc := oc) (r := r) t
  unfold mk dest
  by_cases hk : kk (t + 1) ≤ hol kk oc r t
  · rw [if_pos hk, if_pos hl, if_pos rfl]
  · rw [if_neg hk, if_neg (by omega), if_pos h2]

theorem mk_start (H : Nat → Int) (s : Nat) (hs : 1 ≤ s) : mk H kk oc r 0 s = if oc s = true then 0 else H s := by
  unfold mk
  rw [if_neg (by omega)]

/-- THE LAW: what the fresh table holds at the end is what shifting back has left when it met the first empty place c. -/
theorem law (H : Nat → Int) (L : Lin N r kk oc) (c : Nat) (hr : r < c) (hcN : c ≤ N) (hc : oc c = false) (s : Nat) (h2 : s ≤ N) : mk H kk oc r N s = if s = hol kk oc r (c - 1) then 0 else H (src kk oc r (c - 1) s) := by
  obtain ⟨a, b⟩ := stop L c hr hc N (by omega) (Nat.le_refl _)
  unfold mk
  rw [if_pos h2, a, b s]

#print axioms law
#print axioms mk_put
end Go.Proofs.Qxb6623391a.Pl
