/- What the premise says, in places told round from the first empty slot. -/
import Derived.Test.Qxb6623513aMask
import Derived.Test.Qxb6623513aPlain
namespace Go.Proofs.Qxb6623513a
open Go.RowKit
set_option linter.unusedVariables false

/-- The slot of place t. -/
def P (N e t : Nat) : Nat := (e + t) % N
/-- The home slot of the entry at slot p. -/
def hm (N : Nat) (H : Nat → Int) (p : Nat) : Nat := (H p % (N : Int)).toNat
/-- How far the entry at place t lies behind its home. -/
def dsp (N e : Nat) (H : Nat → Int) (t : Nat) : Nat := (((P N e t : Int) - (hm N H (P N e t) : Int)) % (N : Int)).toNat

section
variable {N e : Nat} {H S : Nat → Int}

theorem P_lt (hN : 1 ≤ N) (e t : Nat) : P N e t < N := Nat.mod_lt _ (by omega)
theorem hm_lt (hN : 1 ≤ N) (H : Nat → Int) (p : Nat) : hm N H p < N := by
  have := mod_range (H p) N hN
  unfold hm; omega
theorem hm_cast (hN : 1 ≤ N) (H : Nat → Int) (p : Nat) : (hm N H p : Int) = H p % (N : Int) := by
  have := mod_range (H p) N hN
  unfold hm; omega
theorem dsp_lt (hN : 1 ≤ N) (e : Nat) (H : Nat → Int) (t : Nat) : dsp N e H t < N := by
  have := mod_range ((P N e t : Int) - (hm N H (P N e t) : Int)) N hN
  unfold dsp; omega
theorem dsp_cast (hN : 1 ≤ N) (e : Nat) (H : Nat → Int) (t : Nat) : (dsp N e H t : Int) = ((P N e t : Int) - (hm N H (P N e t) : Int)) % (N : Int) := by
  have := mod_range ((P N e t : Int) - (hm N H (P N e t) : Int)) N hN
  unfold dsp; omega
theorem P_N (he : e < N) : P N e N = e := by
  unfold P; rw [Nat.add_mod_right]; exact Nat.mod_eq_of_lt he
theorem P_cast (N e t : Nat) : (P N e t : Int) = ((e : Int) + (t : Int)) % (N : Int) := by
  unfold P; rw [Int.natCast_emod]; push_cast; rfl
theorem P_succ (hN : 1 ≤ N) (e t : Nat) : P N e (t + 1) = (P N e t + 1) % N := by
  unfold P; rw [show e + (t + 1) = (e + t) + 1 by omega, Nat.add_mod (e + t) 1 N, Nat.add_mod ((e + t) % N) 1 N, Nat.mod_mod]

/-- Two places' slots lie as far apart as the places do. -/
theorem P_diff (hN : 1 ≤ N) (e a c : Nat) (h1 : a ≤ c) (h2 : c - a < N) : ((P N e c : Int) - (P N e a : Int)) % (N : Int) = ((c - a : Nat) : Int) := by
  rw [P_cast, P_cast, ← Int.sub_emod, show (e : Int) + (c : Int) - ((e : Int) + (a : Int)) = ((c - a : Nat) : Int) by omega]
  exact Int.emod_eq_of_lt (by omega) (by omega)

theorem P_inj (hN : 1 ≤ N) (e a c : Nat) (ha : 1 ≤ a) (hc : 1 ≤ c) (ha' : a ≤ N) (hc' : c ≤ N) (h : P N e a = P N e c) : a = c := by
  rcases Nat.le_total a c with hle | hle
  · have := P_diff hN e a c hle (by omega)
    rw [h, Int.sub_self, Int.zero_emod] at this
    omega
  · have := P_diff hN e c a hle (by omega)
    rw [h, Int.sub_self, Int.zero_emod] at this
    omega

theorem P_surj (e : Nat) (p : Nat) (hp : p < N) (he : e < N) : ∃ t, 1 ≤ t ∧ t ≤ N ∧ P N e t = p := by
  by_cases hlt : e < p
  · exact ⟨p - e, by omega, by omega, by unfold P; rw [show e + (p - e) = p by omega]; exact Nat.mod_eq_of_lt hp⟩
  · refine ⟨N + p - e, by omega, by omega, ?_⟩
    unfold P
    rw [show e + (N + p - e) = p + N by omega, Nat.add_mod_right]
    exact Nat.mod_eq_of_lt hp

theorem sub_mod_right (a x n : Int) : (a - x % n) % n = (a - x) % n := by
  rw [Int.sub_emod, Int.emod_emod_of_dvd _ (Int.dvd_refl _), ← Int.sub_emod]
theorem sub_mod_left (a x n : Int) : (a % n - x) % n = (a - x) % n := by
  rw [Int.sub_emod, Int.emod_emod_of_dvd _ (Int.dvd_refl _), ← Int.sub_emod]

/-- The home's own place. -/
theorem home (hN : 1 ≤ N) (e : Nat) (H : Nat → Int) (t : Nat) (hd : dsp N e H t ≤ t) : hm N H (P N e t) = P N e (t - dsp N e H t) := by
  have hq := hm_lt hN H (P N e t)
  have h1 : ((P N e (t - dsp N e H t) : Nat) : Int) = (hm N H (P N e t) : Int) := by
    rw [P_cast, show (e : Int) + ((t - dsp N e H t : Nat) : Int) = ((e : Int) + (t : Int)) - (dsp N e H t : Int) by omega, ← sub_mod_left, ← P_cast, dsp_cast hN, sub_mod_right,
      show (P N e t : Int) - ((P N e t : Int) - (hm N H (P N e t) : Int)) = (hm N H (P N e t) : Int) by omega]
    exact Int.emod_eq_of_lt (by omega) (by omega)
  omega

def ocOf (N e : Nat) (S : Nat → Int) (t : Nat) : Bool := S (P N e t) != 0
def kkOf (N e : Nat) (H : Nat → Int) (t : Nat) : Nat := t - dsp N e H t

theorem ocOf_true {t : Nat} : ocOf N e S t = true ↔ S (P N e t) ≠ 0 := by unfold ocOf; simp
theorem ocOf_false {t : Nat} : ocOf N e S t = false ↔ S (P N e t) = 0 := by unfold ocOf; simp

theorem P_zero (he : e < N) : P N e 0 = e := by unfold P; rw [Nat.add_zero]; exact Nat.mod_eq_of_lt he

theorem P_ne (he : e < N) (a b : Nat) (ha : 1 ≤ a) (ha' : a < N) (hb : b ≤ N) (h : a ≠ b) : P N e a ≠ P N e b := by
  intro x
  by_cases h0 : b = 0
  · subst h0
    have x' : P N e a = P N e N := by rw [P_N he, x, P_zero he]
    exact absurd (P_inj (by omega) e a N ha (by omega) (by omega) (Nat.le_refl _) x') (by omega)
  · exact h (P_inj (by omega) e a b ha (by omega) (by omega) hb x)
end

/-- The first half of the key that the cell p names. -/
def Hs (K I : Nat → Int) (p : Nat) : Int := K (I p - 1).toNat

/-- A probe from the home of the key at p walks to p over occupied cells. -/
def Reach (N : Nat) (K I : Nat → Int) (p : Nat) : Prop := ∃ d, d < N ∧ (hm N (Hs K I) p + d) % N = p ∧ ∀ j, j < d → I ((hm N (Hs K I) p + j) % N) ≠ 0

def WF (N nk : Nat) (K I : Nat → Int) : Prop := (∃ z, z < N ∧ I z = 0) ∧ ∀ p, p < N → I p ≠ 0 → 1 ≤ I p ∧ I p ≤ (nk : Int) ∧ Reach N K I p

section
variable {N e nk r c : Nat} {K I ix rr : Nat → Int}

theorem reach_dsp (he : e < N) (hIe : I e = 0) (t : Nat) (ht : 1 ≤ t) (htN : t ≤ N) (hr : Reach N K I (P N e t)) :
    dsp N e (Hs K I) t < t ∧ ∀ u, t - dsp N e (Hs K I) t ≤ u → u < t → I (P N e u) ≠ 0 := by
  obtain ⟨d, hd, h1, h2⟩ := hr
  have hN : 1 ≤ N := by omega
  have hq := hm_lt hN (Hs K I) (P N e t)
  -- d is the distance
  have hdd : dsp N e (Hs K I) t = d := by
    have h3 := dsp_cast hN e (Hs K I) t
    have h4 : ((P N e t : Nat) : Int) = ((hm N (Hs K I) (P N e t) : Int) + (d : Int)) % (N : Int) := by
      conv => lhs; rw [← h1]
      rw [Int.natCast_emod]; push_cast; rfl
    conv at h3 => rhs; lhs; lhs; rw [h4]
    rw [sub_mod_left, show ((hm N (Hs K I) (P N e t) : Int) + (d : Int)) - (hm N (Hs K I) (P N e t) : Int) = (d : Int) by omega, Int.emod_eq_of_lt (by omega) (by omega)] at h3
    omega
  have hlt : d < t := by
    refine Nat.lt_of_not_le fun hle => ?_
    refine h2 (d - t) (by omega) ?_
    have h5 : (hm N (Hs K I) (P N e t) + (d - t)) % N = e := by
      have h6 : (((hm N (Hs K I) (P N e t) + (d - t)) % N : Nat) : Int) = (e : Int) := by
        rw [Int.natCast_emod, show (((hm N (Hs K I) (P N e t) + (d - t) : Nat)) : Int) = ((hm N (Hs K I) (P N e t) : Int) + (d : Int)) - (t : Int) by omega, ← sub_mod_left]
        have h4 : ((hm N (Hs K I) (P N e t) : Int) + (d : Int)) % (N : Int) = ((P N e t : Nat) : Int) := by
          conv => rhs; rw [← h1]
          rw [Int.natCast_emod]; push_cast; rfl
        rw [h4, P_cast, sub_mod_left, show (e : Int) + (t : Int) - (t : Int) = (e : Int) by omega]
        exact Int.emod_eq_of_lt (by omega) (by omega)
      omega
    rw [h5]; exact hIe
  refine ⟨by omega, fun u hu1 hu2 => ?_⟩
  have hh := home hN e (Hs K I) t (by omega)
  have h7 := h2 (u - (t - d)) (by omega)
  have h8 : (hm N (Hs K I) (P N e t) + (u - (t - d))) % N = P N e u := by
    rw [hh, hdd]
    unfold P
    rw [Nat.mod_add_mod, show e + (t - d) + (u - (t - d)) = e + u by omega]
  rw [h8] at h7
  exact h7

theorem WF.lin (w : WF N nk K I) (he : e < N) (hIe : I e = 0) (hr : r = 0 ∨ (1 ≤ r ∧ I (P N e r) ≠ 0)) (hrN : r ≤ N) : Pl.Lin N r (kkOf N e (Hs K I)) (ocOf N e I) := by
  have hN : 1 ≤ N := by omega
  have key : ∀ t, 1 ≤ t → t ≤ N → ocOf N e I t = true → dsp N e (Hs K I) t < t ∧ ∀ u, t - dsp N e (Hs K I) t ≤ u → u < t → I (P N e u) ≠ 0 := fun t h1 h2 ho =>
    reach_dsp he hIe t h1 h2 (w.2 _ (P_lt hN e t) (ocOf_true.1 ho)).2.2
  refine ⟨?_, hrN, ocOf_false.2 (by rw [P_N he]; exact hIe), fun t h1 h2 ho => ?_, fun t h1 h2 ho => by unfold kkOf; omega, fun t h1 h2 ho u hu1 hu2 => ?_⟩
  · rcases hr with h | h
    · exact .inl h
    · exact .inr ⟨h.1, ocOf_true.2 h.2⟩
  · have := (key t h1 h2 ho).1
    unfold kkOf; omega
  · by_cases e1 : u = t
    · subst e1; exact ho
    · exact ocOf_true.2 ((key t h1 h2 ho).2 u hu1 (by omega))

/-- The frame of places for a cell. -/
theorem WF.places (w : WF N nk K I) (cell : Nat) (hc : cell < N) : ∃ e r, e < N ∧ I e = 0 ∧ r < N ∧ P N e r = cell ∧ Pl.Lin N r (kkOf N e (Hs K I)) (ocOf N e I) := by
  by_cases h : I cell = 0
  · exact ⟨cell, 0, hc, h, by omega, P_zero hc, w.lin hc h (.inl rfl) (by omega)⟩
  · obtain ⟨z, hz, hIz⟩ := w.1
    obtain ⟨r, h1, h2, h3⟩ := P_surj z cell hc hz
    have L := w.lin hz hIz (.inr ⟨h1, by rw [h3]; exact h⟩) h2
    refine ⟨z, r, hz, hIz, L.tlt h2 (ocOf_true.2 (by rw [h3]; exact h)), h3, L⟩

def holOf (N e : Nat) (K I : Nat → Int) (r c : Nat) : Nat := Pl.hol (kkOf N e (Hs K I)) (ocOf N e I) r c
def srcOf (N e : Nat) (K I : Nat → Int) (r c s : Nat) : Nat := Pl.src (kkOf N e (Hs K I)) (ocOf N e I) r c s

/-- The index while it is shifted back, gone through up to c. -/
def Shf (N e : Nat) (K I : Nat → Int) (r c : Nat) (ix : Nat → Int) : Prop := ∀ s, 1 ≤ s → s ≤ N → ix (P N e s) = I (P N e (srcOf N e K I r c s))
/-- .. and with the hole emptied. -/
def Clr (N e : Nat) (K I : Nat → Int) (r c : Nat) (ix : Nat → Int) : Prop := ∀ s, 1 ≤ s → s ≤ N → ix (P N e s) = if P N e s = P N e (holOf N e K I r c) then 0 else I (P N e (srcOf N e K I r c s))

theorem hol_range (L : Pl.Lin N r (kkOf N e (Hs K I)) (ocOf N e I)) (hr : r ≤ c) : r ≤ holOf N e K I r c ∧ holOf N e K I r c ≤ c :=
  ⟨Pl.hol_from L c hr, Pl.hol_le c⟩

theorem Shf.start (L : Pl.Lin N r (kkOf N e (Hs K I)) (ocOf N e I)) : Shf N e K I r r I := fun s _ _ => by unfold srcOf; rw [Pl.src_at L]
theorem Shf.next (g : Shf N e K I r c ix) (hc : c + 1 ≤ N) : ix (P N e (c + 1)) = I (P N e (c + 1)) := by
  have := g (c + 1) (by omega) hc
  unfold srcOf at this
  rwa [Pl.src_above c (c + 1) (by omega)] at this
theorem Shf.stay (g : Shf N e K I r c ix) (hr : r ≤ c) (hk : ¬ kkOf N e (Hs K I) (c + 1) ≤ holOf N e K I r c) : holOf N e K I r (c + 1) = holOf N e K I r c ∧ Shf N e K I r (c + 1) ix := by
  obtain ⟨a, b⟩ := Pl.stay (kk := kkOf N e (Hs K I)) (oc := ocOf N e I) (r := r) c (by omega) (fun x => hk x.2)
  exact ⟨a, fun s h1 h2 => by unfold srcOf; rw [b s]; exact g s h1 h2⟩
theorem Shf.move (g : Shf N e K I r c ix) (he : e < N) (L : Pl.Lin N r (kkOf N e (Hs K I)) (ocOf N e I)) (hr : r ≤ c) (hc : c + 1 ≤ N) (ho : I (P N e (c + 1)) ≠ 0) (hk : kkOf N e (Hs K I) (c + 1) ≤ holOf N e K I r c) :
    holOf N e K I r (c + 1) = c + 1 ∧ Shf N e K I r (c + 1) (fun j => if j = P N e (holOf N e K I r c) then I (P N e (c + 1)) else ix j) := by
  obtain ⟨a, b⟩ := Pl.move (kk := kkOf N e (Hs K I)) (oc := ocOf N e I) (r := r) c (by omega) (ocOf_true.2 ho) hk
  have hl := Pl.hol_le (kk := kkOf N e (Hs K I)) (oc := ocOf N e I) (r := r) c
  have h1k := L.k1 (c + 1) (by omega) hc (ocOf_true.2 ho)
  refine ⟨a, fun s h1 h2 => ?_⟩
  have hg := g s h1 h2
  unfold srcOf holOf at *
  rw [b s]
  by_cases e1 : s = Pl.hol (kkOf N e (Hs K I)) (ocOf N e I) r c
  · rw [if_pos e1, e1]; simp
  · have e2 : ¬ P N e s = P N e (Pl.hol (kkOf N e (Hs K I)) (ocOf N e I) r c) := fun x => e1 (P_inj (by omega) e s _ h1 (by omega) h2 (by omega) x)
    rw [if_neg e1]
    simp only [e2, if_false]
    exact hg
theorem Shf.done (g : Shf N e K I r c ix) : Clr N e K I r c (fun j => if j = P N e (holOf N e K I r c) then 0 else ix j) := fun s h1 h2 => by
  dsimp only
  by_cases e1 : P N e s = P N e (holOf N e K I r c)
  · rw [if_pos e1, if_pos e1]
  · rw [if_neg e1, if_neg e1, g s h1 h2]

theorem Clr.start (L : Pl.Lin N r (kkOf N e (Hs K I)) (ocOf N e I)) : Clr N e K I r r (fun j => if j = P N e r then 0 else I j) := fun s h1 h2 => by
  unfold holOf srcOf
  rw [Pl.hol_at L, Pl.src_at L]

def dstOf (N e : Nat) (K I : Nat → Int) (r c : Nat) : Nat := if kkOf N e (Hs K I) (c + 1) ≤ holOf N e K I r c then holOf N e K I r c else c + 1

theorem dst_range (L : Pl.Lin N r (kkOf N e (Hs K I)) (ocOf N e I)) (hc : c + 1 ≤ N) (ho : I (P N e (c + 1)) ≠ 0) : kkOf N e (Hs K I) (c + 1) ≤ dstOf N e K I r c ∧ dstOf N e K I r c ≤ c + 1 ∧ 1 ≤ kkOf N e (Hs K I) (c + 1) := by
  have a := L.k1 (c + 1) (by omega) hc (ocOf_true.2 ho)
  have b := L.kt (c + 1) (by omega) hc (ocOf_true.2 ho)
  have hl := Pl.hol_le (kk := kkOf N e (Hs K I)) (oc := ocOf N e I) (r := r) c
  unfold dstOf holOf
  split <;> omega

theorem Clr.next (g : Clr N e K I r c rr) (he : e < N) (L : Pl.Lin N r (kkOf N e (Hs K I)) (ocOf N e I)) (hc : c + 1 ≤ N) (ho : I (P N e (c + 1)) ≠ 0) : rr (P N e (c + 1)) = I (P N e (c + 1)) := by
  have hlt := L.tlt hc (ocOf_true.2 ho)
  have hl := Pl.hol_le (kk := kkOf N e (Hs K I)) (oc := ocOf N e I) (r := r) c
  rw [g (c + 1) (by omega) hc, if_neg (P_ne he (c + 1) _ (by omega) hlt (by unfold holOf; omega) (by unfold holOf; omega))]
  unfold srcOf
  rw [Pl.src_above c (c + 1) (by omega)]

/-- The probe goes past every cell ahead of 'dst' .. -/
theorem Clr.full (g : Clr N e K I r c rr) (he : e < N) (L : Pl.Lin N r (kkOf N e (Hs K I)) (ocOf N e I)) (hc : c + 1 ≤ N) (ho : I (P N e (c + 1)) ≠ 0) (u : Nat) (h1 : kkOf N e (Hs K I) (c + 1) ≤ u) (h2 : u < dstOf N e K I r c) :
    (if P N e u = P N e (c + 1) then 0 else rr (P N e u)) ≠ 0 := by
  have hd := dst_range (r := r) L hc ho
  have hlt := L.tlt hc (ocOf_true.2 ho)
  have hl := Pl.hol_le (kk := kkOf N e (Hs K I)) (oc := ocOf N e I) (r := r) c
  have hnh : u ≠ holOf N e K I r c := by unfold dstOf at h2; split at h2 <;> omega
  rw [if_neg (P_ne he u (c + 1) (by omega) (by omega) hc (by omega)), g u (by omega) (by omega), if_neg (P_ne he u _ (by omega) (by omega) (by unfold holOf; omega) hnh)]
  exact ocOf_true.1 (Pl.src_oc c u (L.run (c + 1) (by omega) hc (ocOf_true.2 ho) u h1 (by omega)))

/-- .. and finds 'dst' empty. -/
theorem Clr.free (g : Clr N e K I r c rr) (L : Pl.Lin N r (kkOf N e (Hs K I)) (ocOf N e I)) (hc : c + 1 ≤ N) (ho : I (P N e (c + 1)) ≠ 0) :
    (if P N e (dstOf N e K I r c) = P N e (c + 1) then 0 else rr (P N e (dstOf N e K I r c))) = 0 := by
  have hd := dst_range (r := r) L hc ho
  have hl := Pl.hol_le (kk := kkOf N e (Hs K I)) (oc := ocOf N e I) (r := r) c
  by_cases hk : kkOf N e (Hs K I) (c + 1) ≤ holOf N e K I r c
  · have ed : dstOf N e K I r c = holOf N e K I r c := by unfold dstOf; rw [if_pos hk]
    rw [ed]
    by_cases e1 : P N e (holOf N e K I r c) = P N e (c + 1)
    · rw [if_pos e1]
    · rw [if_neg e1, g _ (by omega) (by unfold holOf; omega), if_pos rfl]
  · have ed : dstOf N e K I r c = c + 1 := by unfold dstOf; rw [if_neg hk]
    rw [ed, if_pos rfl]

theorem Clr.step (g : Clr N e K I r c rr) (he : e < N) (L : Pl.Lin N r (kkOf N e (Hs K I)) (ocOf N e I)) (hr : r ≤ c) (hc : c + 1 ≤ N) (ho : I (P N e (c + 1)) ≠ 0) :
    Clr N e K I r (c + 1) (fun j => if j = P N e (dstOf N e K I r c) then I (P N e (c + 1)) else if j = P N e (c + 1) then 0 else rr j) := by
  have hlt := L.tlt hc (ocOf_true.2 ho)
  have hl := Pl.hol_le (kk := kkOf N e (Hs K I)) (oc := ocOf N e I) (r := r) c
  have h1k := L.k1 (c + 1) (by omega) hc (ocOf_true.2 ho)
  intro s h1 h2
  have hg := g s h1 h2
  dsimp only
  by_cases hk : kkOf N e (Hs K I) (c + 1) ≤ holOf N e K I r c
  · obtain ⟨a, b⟩ := Pl.move (kk := kkOf N e (Hs K I)) (oc := ocOf N e I) (r := r) c (by omega) (ocOf_true.2 ho) hk
    have ed : dstOf N e K I r c = holOf N e K I r c := by unfold dstOf; rw [if_pos hk]
    have ea : holOf N e K I r (c + 1) = c + 1 := a
    have eb : srcOf N e K I r (c + 1) s = if s = holOf N e K I r c then c + 1 else srcOf N e K I r c s := b s
    rw [ed, ea, eb]
    have hne : P N e (c + 1) ≠ P N e (holOf N e K I r c) := P_ne he (c + 1) _ (by omega) hlt (by unfold holOf; omega) (by unfold holOf; omega)
    by_cases e1 : s = holOf N e K I r c
    · rw [if_pos (by rw [e1]), if_neg (by rw [e1]; exact fun x => hne x.symm), if_pos e1]
    · have e2 : ¬ P N e s = P N e (holOf N e K I r c) := fun x => e1 (P_inj (by omega) e s _ h1 (by omega) h2 (by unfold holOf; omega) x)
      rw [if_neg e2, if_neg e1, hg, if_neg e2]
  · obtain ⟨a, b⟩ := Pl.stay (kk := kkOf N e (Hs K I)) (oc := ocOf N e I) (r := r) c (by omega) (fun x => hk x.2)
    have ed : dstOf N e K I r c = c + 1 := by unfold dstOf; rw [if_neg hk]
    have ea : holOf N e K I r (c + 1) = holOf N e K I r c := a
    have eb : srcOf N e K I r (c + 1) s = srcOf N e K I r c s := b s
    rw [ed, ea, eb]
    have hne : P N e (c + 1) ≠ P N e (holOf N e K I r c) := P_ne he (c + 1) _ (by omega) hlt (by unfold holOf; omega) (by unfold holOf; omega)
    by_cases e1 : P N e s = P N e (c + 1)
    · rw [if_pos e1, if_neg (by rw [e1]; exact hne)]
      have : s = c + 1 := P_inj (by omega) e s (c + 1) h1 (by omega) h2 hc e1
      subst this
      unfold srcOf
      rw [Pl.src_above c (c + 1) (by omega)]
    · rw [if_neg e1, if_neg e1, hg]

/-- Where the run ends. -/
def StopAt (N e : Nat) (I : Nat → Int) (r c : Nat) : Prop := r ≤ c ∧ c + 1 ≤ N ∧ I (P N e (c + 1)) = 0 ∧ ∀ t, r < t → t ≤ c → I (P N e t) ≠ 0
theorem StopAt.eq {c c' : Nat} (h : StopAt N e I r c) (h' : StopAt N e I r c') : c = c' := by
  rcases Nat.lt_trichotomy c c' with hlt | heq | hgt
  · exact absurd h.2.2.1 (h'.2.2.2 (c + 1) (by have := h.1; omega) (by omega))
  · exact heq
  · exact absurd h'.2.2.1 (h.2.2.2 (c' + 1) (by have := h'.1; omega) (by omega))

/-- Two roads that end at the first empty cell with the same state hold the same. -/
theorem Clr.same {c' : Nat} (he : e < N) (h : Clr N e K I r c ix) (h' : Clr N e K I r c' rr) (s : StopAt N e I r c) (s' : StopAt N e I r c') : ∀ i, i < N → ix i = rr i := by
  intro i hi
  obtain ⟨t, h1, h2, rfl⟩ := P_surj e i hi he
  have := s.eq s'
  subst this
  rw [h t h1 h2, h' t h1 h2]
end
end Go.Proofs.Qxb6623513a
