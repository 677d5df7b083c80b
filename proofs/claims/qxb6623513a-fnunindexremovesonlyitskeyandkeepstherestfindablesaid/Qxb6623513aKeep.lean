/- What stays in the index: each other entry once, and findable. No Go in sight. -/
import Derived.Test.Qxb6623513aGood
namespace Go.Proofs.Qxb6623513a
open Go.RowKit
set_option linter.unusedVariables false
namespace Pl
variable {N r : Nat} {kk : Nat → Nat} {oc : Nat → Bool}

/-- What is known when the places up to t have been gone through. -/
structure Inv (N r : Nat) (kk : Nat → Nat) (oc : Nat → Bool) (t : Nat) : Prop where
  nr : ∀ s, 1 ≤ s → s ≤ N → s ≠ hol kk oc r t → src kk oc r t s ≠ r
  inj : ∀ s s', 1 ≤ s → s ≤ N → 1 ≤ s' → s' ≤ N → s ≠ hol kk oc r t → s' ≠ hol kk oc r t → src kk oc r t s = src kk oc r t s' → s = s'
  sur : ∀ u, 1 ≤ u → u ≤ N → u ≠ r → ∃ s, 1 ≤ s ∧ s ≤ N ∧ s ≠ hol kk oc r t ∧ src kk oc r t s = u
  btw : ∀ s, 1 ≤ s → s ≤ N → s ≠ hol kk oc r t → oc (src kk oc r t s) = true → kk (src kk oc r t s) ≤ s ∧ s ≤ src kk oc r t s
  beh : ∀ s, hol kk oc r t < s → src kk oc r t s = s
  far : ∀ s, hol kk oc r t < s → s ≤ t → oc s = true → hol kk oc r t < kk s

theorem Inv.base (L : Lin N r kk oc) : Inv N r kk oc r where
  nr := fun s _ _ h => by rw [hol_at L] at h; rw [src_at L]; exact h
  inj := fun s s' _ _ _ _ _ _ h => by rwa [src_at L, src_at L] at h
  sur := fun u h1 h2 h3 => ⟨u, h1, h2, by rw [hol_at L]; exact h3, src_at L u⟩
  btw := fun s h1 h2 _ ho => by rw [src_at L] at ho ⊢; exact ⟨L.kt s h1 h2 ho, Nat.le_refl _⟩
  beh := fun s _ => src_at L s
  far := fun s h1 h2 _ => by rw [hol_at L] at h1; omega

theorem Inv.step (L : Lin N r kk oc) {t : Nat} (hr : r ≤ t) (ht : t + 1 ≤ N) (h : Inv N r kk oc t) : Inv N r kk oc (t + 1) := by
  have hl := hol_le (kk := kk) (oc := oc) (r := r) t
  by_cases hm : oc (t + 1) = true ∧ kk (t + 1) ≤ hol kk oc r t
  · obtain ⟨a, b⟩ := move (kk := kk) (oc := oc) (r := r) t (by omega) hm.1 hm.2
    have hk1 := L.k1 (t + 1) (by omega) ht hm.1
    refine ⟨fun s h1 h2 h3 => ?_, fun s s' h1 h2 h1' h2' h3 h3' he => ?_, fun u h1 h2 h3 => ?_, fun s h1 h2 h3 ho => ?_, fun s h1 => ?_, fun s h1 h2 _ => ?_⟩
    · rw [b s]
      split
      · omega
      · rename_i hne; exact h.nr s h1 h2 hne
    · rw [a] at h3 h3'
      rw [b s, b s'] at he
      have hab : src kk oc r t (t + 1) = t + 1 := src_above t (t + 1) (by omega)
      by_cases e1 : s = hol kk oc r t
      · by_cases e2 : s' = hol kk oc r t
        · omega
        · rw [if_pos e1, if_neg e2] at he
          exact absurd (h.inj (t + 1) s' (by omega) ht h1' h2' (by omega) e2 (by rw [hab]; exact he)).symm h3'
      · by_cases e2 : s' = hol kk oc r t
        · rw [if_neg e1, if_pos e2] at he
          exact absurd (h.inj s (t + 1) h1 h2 (by omega) ht e1 (by omega) (by rw [hab]; exact he)) h3
        · rw [if_neg e1, if_neg e2] at he
          exact h.inj s s' h1 h2 h1' h2' e1 e2 he
    · obtain ⟨s, q1, q2, q3, q4⟩ := h.sur u h1 h2 h3
      by_cases e1 : s = t + 1
      · subst e1
        refine ⟨hol kk oc r t, by omega, by omega, by rw [a]; omega, ?_⟩
        rw [b, if_pos rfl, ← q4]
        exact (src_above t (t + 1) (by omega)).symm
      · exact ⟨s, q1, q2, by rw [a]; exact e1, by rw [b, if_neg q3]; exact q4⟩
    · rw [b s] at ho ⊢
      by_cases e1 : s = hol kk oc r t
      · rw [if_pos e1]; omega
      · rw [if_neg e1] at ho ⊢
        exact h.btw s h1 h2 e1 ho
    · rw [a] at h1
      exact src_above (t + 1) s h1
    · rw [a] at h1; omega
  · obtain ⟨a, b⟩ := stay (kk := kk) (oc := oc) (r := r) t (by omega) hm
    refine ⟨fun s h1 h2 h3 => ?_, fun s s' h1 h2 h1' h2' h3 h3' he => ?_, fun u h1 h2 h3 => ?_, fun s h1 h2 h3 ho => ?_, fun s h1 => ?_, fun s h1 h2 ho => ?_⟩
    · rw [b s]; rw [a] at h3; exact h.nr s h1 h2 h3
    · rw [b s, b s'] at he; rw [a] at h3 h3'; exact h.inj s s' h1 h2 h1' h2' h3 h3' he
    · obtain ⟨s, q1, q2, q3, q4⟩ := h.sur u h1 h2 h3
      exact ⟨s, q1, q2, by rw [a]; exact q3, by rw [b]; exact q4⟩
    · rw [b s] at ho ⊢; rw [a] at h3; exact h.btw s h1 h2 h3 ho
    · rw [b]; rw [a] at h1; exact h.beh s h1
    · rw [a] at h1 ⊢
      by_cases e1 : s = t + 1
      · subst e1
        exact Nat.lt_of_not_le fun hle => hm ⟨ho, hle⟩
      · exact h.far s h1 (by omega) ho

theorem Inv.all (L : Lin N r kk oc) (t : Nat) (hr : r ≤ t) (ht : t ≤ N) : Inv N r kk oc t := by
  induction t with
  | zero =>
    obtain rfl : r = 0 := by omega
    exact Inv.base L
  | succ t ih =>
    by_cases e : r = t + 1
    · have := Inv.base L
      rw [e] at this ⊢
      exact this
    · exact (ih (by omega) (by omega)).step L (by omega) ht

/-- When the run has ended at c: no probe for an entry runs over the hole. -/
theorem Inv.clear (L : Lin N r kk oc) {c s : Nat} (h : Inv N r kk oc c) (hr : r ≤ c) (hc : c + 1 ≤ N) (he : oc (c + 1) = false) (h1 : 1 ≤ s) (h2 : s ≤ N) (h3 : s ≠ hol kk oc r c) (ho : oc (src kk oc r c s) = true) (x : Nat) (hx1 : kk (src kk oc r c s) ≤ x) (hx2 : x < s) : x ≠ hol kk oc r c := by
  intro e
  have hl := hol_le (kk := kk) (oc := oc) (r := r) c
  have hb := h.beh s (by omega)
  rw [hb] at ho hx1
  by_cases hsc : s ≤ c
  · have := h.far s (by omega) hsc ho
    omega
  · have := L.run s h1 h2 ho (c + 1) (by omega) (by omega)
    rw [he] at this
    cases this
end Pl

section
variable {N e nk r c : Nat} {K I ix : Nat → Int}

/-- Distinct: no slot is named by two cells. -/
def Dis (N : Nat) (I : Nat → Int) : Prop := ∀ p q, p < N → q < N → I p ≠ 0 → I p = I q → p = q

/-- Where an occupied cell's entry came from. -/
theorem Clr.from (h : Clr N e K I r c ix) (he : e < N) (p : Nat) (hp : p < N) (hne : ix p ≠ 0) :
    ∃ s, 1 ≤ s ∧ s ≤ N ∧ P N e s = p ∧ s ≠ holOf N e K I r c ∧ ix p = I (P N e (srcOf N e K I r c s)) := by
  obtain ⟨s, h1, h2, rfl⟩ := P_surj e p hp he
  have := h s h1 h2
  by_cases e1 : P N e s = P N e (holOf N e K I r c)
  · rw [if_pos e1] at this; exact absurd this hne
  · rw [if_neg e1] at this
    exact ⟨s, h1, h2, rfl, fun x => e1 (by rw [x]), this⟩

theorem Clr.range (h : Clr N e K I r c ix) (w : WF N nk K I) (he : e < N) (p : Nat) (hp : p < N) (hne : ix p ≠ 0) : 1 ≤ ix p ∧ ix p ≤ (nk : Int) := by
  obtain ⟨s, h1, h2, h3, h4, h5⟩ := h.from he p hp hne
  have := w.2 _ (P_lt (by omega) e (srcOf N e K I r c s)) (by rw [← h5]; exact hne)
  rw [h5]; exact ⟨this.1, this.2.1⟩

theorem Clr.dis (h : Clr N e K I r c ix) (L : Pl.Lin N r (kkOf N e (Hs K I)) (ocOf N e I)) (he : e < N) (hr : r ≤ c) (hc : c ≤ N) (d : Dis N I) : Dis N ix := by
  intro p q hp hq hne heq
  obtain ⟨s, h1, h2, h3, h4, h5⟩ := h.from he p hp hne
  obtain ⟨s', h1', h2', h3', h4', h5'⟩ := h.from he q hq (by rw [← heq]; exact hne)
  have V := Pl.Inv.all L c hr hc
  have r1 := Pl.src_range (kk := kkOf N e (Hs K I)) (oc := ocOf N e I) (r := r) c s hc h1 h2
  have r2 := Pl.src_range (kk := kkOf N e (Hs K I)) (oc := ocOf N e I) (r := r) c s' hc h1' h2'
  have e1 := d _ _ (P_lt (by omega) e (srcOf N e K I r c s)) (P_lt (by omega) e (srcOf N e K I r c s')) (by rw [← h5]; exact hne) (by rw [← h5, ← h5', heq])
  have e2 := P_inj (by omega) e _ _ r1.1 r2.1 r1.2 r2.2 e1
  have e3 := V.inj s s' h1 h2 h1' h2' h4 h4' e2
  rw [← h3, ← h3', e3]

theorem Clr.reach (h : Clr N e K I r c ix) (w : WF N nk K I) (L : Pl.Lin N r (kkOf N e (Hs K I)) (ocOf N e I)) (he : e < N) (hIe : I e = 0) (st : StopAt N e I r c) (p : Nat) (hp : p < N) (hne : ix p ≠ 0) : Reach N K ix p := by
  have hN : 1 ≤ N := by omega
  obtain ⟨s, h1, h2, h3, h4, h5⟩ := h.from he p hp hne
  have hc := st.2.1
  have V := Pl.Inv.all L c st.1 (by omega)
  have r1 := Pl.src_range (kk := kkOf N e (Hs K I)) (oc := ocOf N e I) (r := r) c s (by omega) h1 h2
  have ho : ocOf N e I (srcOf N e K I r c s) = true := ocOf_true.2 (by rw [← h5]; exact hne)
  obtain ⟨u, hu⟩ : ∃ u, u = srcOf N e K I r c s := ⟨_, rfl⟩
  have hb := V.btw s h1 h2 h4 ho
  have hcl := V.clear L st.1 hc (ocOf_false.2 st.2.2.1) h1 h2 h4 ho
  change kkOf N e (Hs K I) (srcOf N e K I r c s) ≤ s ∧ s ≤ srcOf N e K I r c s at hb
  change ∀ x, kkOf N e (Hs K I) (srcOf N e K I r c s) ≤ x → x < s → x ≠ holOf N e K I r c at hcl
  change 1 ≤ srcOf N e K I r c s ∧ srcOf N e K I r c s ≤ N at r1
  rw [← hu] at hb hcl ho h5 r1
  have hIu := ocOf_true.1 ho
  have hk1 := L.k1 u r1.1 r1.2 ho
  have hd := (reach_dsp he hIe u r1.1 r1.2 (w.2 _ (P_lt hN e u) hIu).2.2).1
  have hh := home hN e (Hs K I) u (by omega)
  have hhm : hm N (Hs K ix) p = P N e (kkOf N e (Hs K I) u) := by
    have : Hs K ix p = Hs K I (P N e u) := by unfold Hs; rw [h5]
    unfold hm
    rw [this]
    exact hh
  have hadd : ∀ j, (P N e (kkOf N e (Hs K I) u) + j) % N = P N e (kkOf N e (Hs K I) u + j) := fun j => by
    unfold P
    rw [Nat.mod_add_mod, show e + kkOf N e (Hs K I) u + j = e + (kkOf N e (Hs K I) u + j) by omega]
  refine ⟨s - kkOf N e (Hs K I) u, by omega, ?_, fun j hj => ?_⟩
  · rw [hhm, hadd, show kkOf N e (Hs K I) u + (s - kkOf N e (Hs K I) u) = s by omega]
    exact h3
  · rw [hhm, hadd]
    have hx := hcl (kkOf N e (Hs K I) u + j) (by omega) (by omega)
    have hl := Pl.hol_le (kk := kkOf N e (Hs K I)) (oc := ocOf N e I) (r := r) c
    rw [h _ (by omega) (by omega), if_neg (P_ne he _ _ (by omega) (by omega) (by unfold holOf; omega) hx)]
    exact ocOf_true.1 (Pl.src_oc c _ (L.run u r1.1 r1.2 ho _ (by omega) (by omega)))

/-- What is named afterwards: what was named before but for the cell's own. -/
theorem Clr.named (h : Clr N e K I r c ix) (L : Pl.Lin N r (kkOf N e (Hs K I)) (ocOf N e I)) (he : e < N) (hIe : I e = 0) (st : StopAt N e I r c) (d : Dis N I) (v : Int) (hv : v ≠ 0) :
    (∃ p, p < N ∧ ix p = v) ↔ (∃ p, p < N ∧ I p = v) ∧ v ≠ I (P N e r) := by
  have hN : 1 ≤ N := by omega
  have hc := st.2.1
  have V := Pl.Inv.all L c st.1 (by omega)
  constructor
  · rintro ⟨p, hp, rfl⟩
    obtain ⟨s, h1, h2, h3, h4, h5⟩ := h.from he p hp hv
    have r1 := Pl.src_range (kk := kkOf N e (Hs K I)) (oc := ocOf N e I) (r := r) c s (by omega) h1 h2
    have hnr := V.nr s h1 h2 h4
    refine ⟨⟨_, P_lt hN e (srcOf N e K I r c s), h5.symm⟩, fun x => ?_⟩
    have e1 := d _ _ (P_lt hN e (srcOf N e K I r c s)) (P_lt hN e r) (by rw [← h5]; exact hv) (by rw [← h5, x])
    rcases L.hr with h0 | h0
    · rw [h0, P_zero he, hIe] at x; exact hv x
    · exact hnr (P_inj hN e _ _ r1.1 h0.1 r1.2 L.rN e1)
  · rintro ⟨⟨p, hp, rfl⟩, hne⟩
    obtain ⟨u, h1, h2, rfl⟩ := P_surj e p hp he
    obtain ⟨s, q1, q2, q3, q4⟩ := V.sur u h1 h2 (fun x => hne (by rw [x]))
    have hl := Pl.hol_le (kk := kkOf N e (Hs K I)) (oc := ocOf N e I) (r := r) c
    have hsN : s < N := by
      refine Nat.lt_of_le_of_ne q2 fun x => ?_
      have := Pl.src_empty L c N (by omega) L.ocN
      rw [x, this] at q4
      rw [← q4, P_N he] at hv
      exact hv hIe
    refine ⟨P N e s, P_lt hN e s, ?_⟩
    rw [h s q1 q2, if_neg (P_ne he s (holOf N e K I r c) q1 hsN (by unfold holOf; omega) q3)]
    unfold srcOf
    rw [q4]
end
end Go.Proofs.Qxb6623513a
