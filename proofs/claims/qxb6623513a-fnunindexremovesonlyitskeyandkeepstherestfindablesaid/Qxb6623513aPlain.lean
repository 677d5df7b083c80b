/- Shifting back in a linear-probing index, with no Go in sight. Places are told round from an empty cell: 1 .. N; place N (and place 0) is that cell. The hole begins at place r; r = 0 says that the cell to be emptied is that empty cell itself. -/
namespace Go.Proofs.Qxb6623513a.Pl
set_option linter.unusedVariables false

/-- Where the hole lies when the places up to t have been gone through. -/
def hol (kk : Nat → Nat) (oc : Nat → Bool) (r : Nat) : Nat → Nat
  | 0 => 0
  | t + 1 => if t + 1 = r then r else if oc (t + 1) = true ∧ kk (t + 1) ≤ hol kk oc r t then t + 1 else hol kk oc r t

/-- Which place's entry lies at s by then. -/
def src (kk : Nat → Nat) (oc : Nat → Bool) (r : Nat) : Nat → Nat → Nat
  | 0, s => s
  | t + 1, s => if (t + 1 ≠ r ∧ oc (t + 1) = true ∧ kk (t + 1) ≤ hol kk oc r t) ∧ s = hol kk oc r t then t + 1 else src kk oc r t s

structure Lin (N r : Nat) (kk : Nat → Nat) (oc : Nat → Bool) : Prop where
  hr : r = 0 ∨ (1 ≤ r ∧ oc r = true)
  rN : r ≤ N
  ocN : oc N = false
  k1 : ∀ t, 1 ≤ t → t ≤ N → oc t = true → 1 ≤ kk t
  kt : ∀ t, 1 ≤ t → t ≤ N → oc t = true → kk t ≤ t
  run : ∀ t, 1 ≤ t → t ≤ N → oc t = true → ∀ u, kk t ≤ u → u ≤ t → oc u = true

variable {N r : Nat} {kk : Nat → Nat} {oc : Nat → Bool}

theorem Lin.tlt (L : Lin N r kk oc) {t : Nat} (ht : t ≤ N) (h : oc t = true) : t < N := by
  have h3 := L.ocN
  refine Nat.lt_of_le_of_ne ht fun e => ?_
  rw [e, h3] at h
  cases h

theorem hol_le (t : Nat) : hol kk oc r t ≤ t := by
  induction t with
  | zero => exact Nat.le_refl _
  | succ t ih =>
    unfold hol
    split
    · omega
    · split
      · omega
      · omega

theorem hol_before (t : Nat) (h : t < r ∨ r = 0) (ht : t ≤ N) (L : Lin N r kk oc) : hol kk oc r t = 0 := by
  induction t with
  | zero => rfl
  | succ t ih =>
    have ih := ih (by omega) (by omega)
    unfold hol
    rw [if_neg (by omega), ih, if_neg]
    rintro ⟨a, b⟩
    have := L.k1 (t + 1) (by omega) ht a
    omega

theorem hol_at (L : Lin N r kk oc) : hol kk oc r r = r := by
  rcases L.hr with h | ⟨h1, _⟩
  · subst h; rfl
  · obtain ⟨q, rfl⟩ : ∃ q, r = q + 1 := ⟨r - 1, by omega⟩
    rw [hol, if_pos rfl]

theorem hol_from (L : Lin N r kk oc) (t : Nat) (h : r ≤ t) : r ≤ hol kk oc r t := by
  induction t with
  | zero => omega
  | succ t ih =>
    unfold hol
    split
    · omega
    · have ih := ih (by omega)
      split
      · omega
      · exact ih

theorem src_above (t s : Nat) (h : t < s) : src kk oc r t s = s := by
  induction t with
  | zero => rfl
  | succ t ih =>
    have := hol_le (kk := kk) (oc := oc) (r := r) t
    rw [src, if_neg (by rintro ⟨_, e⟩; omega), ih (by omega)]

theorem src_at (L : Lin N r kk oc) (s : Nat) : src kk oc r r s = s := by
  have h0 : ∀ t, t < r → src kk oc r t s = s := by
    intro t ht
    induction t with
    | zero => rfl
    | succ t ih =>
      have hN := L.rN
      have hh := hol_before (kk := kk) (oc := oc) t (.inl (by omega)) (by omega) L
      rw [src, if_neg, ih (by omega)]
      rintro ⟨⟨_, a, b⟩, x⟩
      have := L.k1 (t + 1) (by omega) (by omega) a
      omega
  rcases L.hr with h | ⟨h1, _⟩
  · subst h; rfl
  · obtain ⟨q, rfl⟩ : ∃ q, r = q + 1 := ⟨r - 1, by omega⟩
    rw [src, if_neg (fun x => x.1.1 rfl)]
    exact h0 q (by omega)

theorem src_oc (t s : Nat) (h : oc s = true) : oc (src kk oc r t s) = true := by
  induction t with
  | zero => exact h
  | succ t ih =>
    unfold src
    split
    · rename_i h'; exact h'.1.2.1
    · exact ih

theorem src_range (t s : Nat) (ht : t ≤ N) (h1 : 1 ≤ s) (h2 : s ≤ N) : 1 ≤ src kk oc r t s ∧ src kk oc r t s ≤ N := by
  induction t with
  | zero => exact ⟨h1, h2⟩
  | succ t ih =>
    unfold src
    split
    · omega
    · exact ih (by omega)

theorem hol_oc (L : Lin N r kk oc) (h1 : 1 ≤ r) (t : Nat) (h : r ≤ t) : oc (hol kk oc r t) = true := by
  induction t with
  | zero => omega
  | succ t ih =>
    unfold hol
    split
    · rcases L.hr with h | h
      · omega
      · exact h.2
    · have ih := ih (by omega)
      split
      · rename_i h; exact h.1
      · exact ih

theorem src_empty (L : Lin N r kk oc) (t s : Nat) (ht : t ≤ N) (h : oc s = false) : src kk oc r t s = s := by
  induction t with
  | zero => rfl
  | succ t ih =>
    rw [src, if_neg, ih (by omega)]
    rintro ⟨⟨_, b, c⟩, e⟩
    have hk := L.k1 (t + 1) (by omega) ht b
    by_cases h0 : t < r ∨ r = 0
    · have := hol_before (kk := kk) (oc := oc) t h0 (by omega) L
      omega
    · have := hol_oc L (by omega) t (by omega)
      rw [← e, h] at this
      cases this

theorem stay (t : Nat) (h1 : t + 1 ≠ r) (h2 : ¬ (oc (t + 1) = true ∧ kk (t + 1) ≤ hol kk oc r t)) : hol kk oc r (t + 1) = hol kk oc r t ∧ ∀ s, src kk oc r (t + 1) s = src kk oc r t s := by
  refine ⟨by rw [hol, if_neg h1, if_neg h2], fun s => ?_⟩
  rw [src, if_neg]
  rintro ⟨⟨_, b, c⟩, _⟩
  exact h2 ⟨b, c⟩

theorem move (t : Nat) (h1 : t + 1 ≠ r) (h2 : oc (t + 1) = true) (h3 : kk (t + 1) ≤ hol kk oc r t) : hol kk oc r (t + 1) = t + 1 ∧ ∀ s, src kk oc r (t + 1) s = if s = hol kk oc r t then t + 1 else src kk oc r t s := by
  refine ⟨by rw [hol, if_neg h1, if_pos ⟨h2, h3⟩], fun s => ?_⟩
  rw [src]
  by_cases e : s = hol kk oc r t
  · rw [if_pos e, if_pos ⟨⟨h1, h2, h3⟩, e⟩]
  · rw [if_neg e, if_neg (fun h => e h.2)]

#print axioms src_at
end Go.Proofs.Qxb6623513a.Pl
