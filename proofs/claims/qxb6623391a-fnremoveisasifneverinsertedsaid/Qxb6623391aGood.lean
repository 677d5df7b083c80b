/- What the premise says, in places told round from the first empty slot. -/
import Derived.Test.Qxb6623391aMask
import Derived.Test.Qxb6623391aPlain
namespace Go.Proofs.Qxb6623391a
open Go.RowKit
set_option linter.unusedVariables false

/-- The slot of place t. -/
def P (N e t : Nat) : Nat := (e + t) % N
/-- The home slot of the entry at slot p. -/
def hm (N : Nat) (H : Nat → Int) (p : Nat) : Nat := (H p % (N : Int)).toNat
/-- How far the entry at place t lies behind its home. -/
def dsp (N e : Nat) (H : Nat → Int) (t : Nat) : Nat := (((P N e t : Int) - (hm N H (P N e t) : Int)) % (N : Int)).toNat

structure Good (N e : Nat) (H S : Nat → Int) (h n : Int) : Prop where
  pow : ∃ m, m ≤ 31 ∧ N = 2 ^ m
  he : e < N
  hSe : S e = 0
  first : ∀ j, j < e → S j ≠ 0
  hn : n ≠ 0
  ex : ∃ pos, pos < N ∧ S pos = n ∧ H pos = h ∧ ∀ j, j < N → S j = n → j = pos
  run : ∀ t, 1 ≤ t → t ≤ N → S (P N e t) ≠ 0 → dsp N e H t < t ∧ ∀ u, t - dsp N e H t ≤ u → u ≤ t → S (P N e u) ≠ 0

section
variable {N e : Nat} {H S : Nat → Int} {h n : Int}

theorem P_lt (hN : 1 ≤ N) (e t : Nat) : P N e t < N := Nat.mod_lt _ (by omega)
theorem hm_lt (hN : 1 ≤ N) (H : Nat → Int) (p : Nat) : hm N H p < N := by
  have := mod_range (H p) N hN
  unfold hm; omega
theorem hm_cast (hN : 1 ≤ N) (H : Nat → Int) (p : Nat) : (hm N H p : Int) = H p % (N : Int) := by
  have := mod_range (H p) N hN
  unfold hm; omega
theorem dsp_lt (hN : 1 ≤ N) (e : Nat) (H : Nat → Int) (t : Nat) : dsp N e H t < N := by
  have := mod_range ((P N e t : Int) - (hm N H (P N e t) : Int)) N hN
  unfold dsp; omega
theorem dsp_cast (hN : 1 ≤ N) (e : Nat) (H : Nat → Int) (t : Nat) : (dsp N e H t : Int) = ((P N e t : Int) - (hm N H (P N e t) : Int)) % (N : Int) := by
  have := mod_range ((P N e t : Int) - (hm N H (P N e t) : Int)) N hN
  unfold dsp; omega
theorem P_N (he : e < N) : P N e N = e := by
  unfold P; rw [Nat.add_mod_right]; exact Nat.mod_eq_of_lt he
theorem P_cast (N e t : Nat) : (P N e t : Int) = ((e : Int) + (t : Int)) % (N : Int) := by
  unfold P; rw [Int.natCast_emod]; push_cast; rfl
theorem P_succ (hN : 1 ≤ N) (e t : Nat) : P N e (t + 1) = (P N e t + 1) % N := by
  unfold P; rw [show e + (t + 1) = (e + t) + 1 by omega, Nat.add_mod (e + t) 1 N, Nat.add_mod ((e + t) % N) 1 N, Nat.mod_mod]

/-- Two places' slots lie as far apart as the places do. -/
theorem P_diff (hN : 1 ≤ N) (e a c : Nat) (h1 : a ≤ c) (h2 : c - a < N) : ((P N e c : Int) - (P N e a : Int)) % (N : Int) = ((c - a : Nat) : Int) := by
  rw [P_cast, P_cast, ← Int.sub_emod, show (e : Int) + (c : Int) - ((e : Int) + (a : Int)) = ((c - a : Nat) : Int) by omega]
  exact Int.emod_eq_of_lt (by omega) (by omega)

theorem P_inj (hN : 1 ≤ N) (e a c : Nat) (ha : 1 ≤ a) (hc : 1 ≤ c) (ha' : a ≤ N) (hc' : c ≤ N) (h : P N e a = P N e c) : a = c := by
  rcases Nat.le_total a c with hle | hle
  · have := P_diff hN e a c hle (by omega)
    rw [h, Int.sub_self, Int.zero_emod] at this
    omega
  · have := P_diff hN e c a hle (by omega)
    rw [h, Int.sub_self, Int.zero_emod] at this
    omega

theorem P_surj (e : Nat) (p : Nat) (hp : p < N) (he : e < N) : ∃ t, 1 ≤ t ∧ t ≤ N ∧ P N e t = p := by
  by_cases hlt : e < p
  · exact ⟨p - e, by omega, by omega, by unfold P; rw [show e + (p - e) = p by omega]; exact Nat.mod_eq_of_lt hp⟩
  · refine ⟨N + p - e, by omega, by omega, ?_⟩
    unfold P
    rw [show e + (N + p - e) = p + N by omega, Nat.add_mod_right]
    exact Nat.mod_eq_of_lt hp

theorem sub_mod_right (a x n : Int) : (a - x % n) % n = (a - x) % n := by
  rw [Int.sub_emod, Int.emod_emod_of_dvd _ (Int.dvd_refl _), ← Int.sub_emod]
theorem sub_mod_left (a x n : Int) : (a % n - x) % n = (a - x) % n := by
  rw [Int.sub_emod, Int.emod_emod_of_dvd _ (Int.dvd_refl _), ← Int.sub_emod]

/-- The home's own place. -/
theorem home (hN : 1 ≤ N) (e : Nat) (H : Nat → Int) (t : Nat) (hd : dsp N e H t ≤ t) : hm N H (P N e t) = P N e (t - dsp N e H t) := by
  have hq := hm_lt hN H (P N e t)
  have h1 : ((P N e (t - dsp N e H t) : Nat) : Int) = (hm N H (P N e t) : Int) := by
    rw [P_cast, show (e : Int) + ((t - dsp N e H t : Nat) : Int) = ((e : Int) + (t : Int)) - (dsp N e H t : Int) by omega, ← sub_mod_left, ← P_cast, dsp_cast hN, sub_mod_right,
      show (P N e t : Int) - ((P N e t : Int) - (hm N H (P N e t) : Int)) = (hm N H (P N e t) : Int) by omega]
    exact Int.emod_eq_of_lt (by omega) (by omega)
  omega

def ocOf (N e : Nat) (S : Nat → Int) (t : Nat) : Bool := S (P N e t) != 0
def kkOf (N e : Nat) (H : Nat → Int) (t : Nat) : Nat := t - dsp N e H t

theorem ocOf_true {t : Nat} : ocOf N e S t = true ↔ S (P N e t) ≠ 0 := by unfold ocOf; simp
theorem ocOf_false {t : Nat} : ocOf N e S t = false ↔ S (P N e t) = 0 := by unfold ocOf; simp

theorem Good.one (g : Good N e H S h n) : 1 ≤ N := by have := g.he; omega

/-- There is the place r that holds n. -/
theorem Good.lin (g : Good N e H S h n) : ∃ r, Pl.Lin N r (kkOf N e H) (ocOf N e S) ∧ S (P N e r) = n ∧ H (P N e r) = h ∧ ∀ t, 1 ≤ t → t ≤ N → S (P N e t) = n → t = r := by
  obtain ⟨pos, hp, hS, hH, hu⟩ := g.ex
  obtain ⟨r, h1, h2, h3⟩ := P_surj e pos hp g.he
  refine ⟨r, ⟨h1, h2, ocOf_true.2 (by rw [h3, hS]; exact g.hn), ocOf_false.2 (by rw [P_N g.he]; exact g.hSe), fun t ht htN ho => ?_, fun t ht htN ho => by unfold kkOf; omega, fun t ht htN ho u hu1 hu2 => ocOf_true.2 ((g.run t ht htN (ocOf_true.1 ho)).2 u hu1 hu2)⟩, by rw [h3, hS], by rw [h3, hH], fun t ht htN e1 => ?_⟩
  · have := (g.run t ht htN (ocOf_true.1 ho)).1
    unfold kkOf; omega
  · have := hu (P N e t) (P_lt g.one e t) e1
    exact P_inj g.one e t r ht h1 htN h2 (by rw [this, h3])

/-- The premise's own slot e is the only first one. -/
theorem first_eq {e' : Nat} (g : Good N e H S h n) (h1 : S e' = 0) (h2 : ∀ j, j < e' → S j ≠ 0) : e' = e := by
  rcases Nat.lt_trichotomy e' e with hlt | heq | hgt
  · exact absurd h1 (g.first e' hlt)
  · exact heq
  · exact absurd g.hSe (h2 e hgt)

end
end Go.Proofs.Qxb6623391a
