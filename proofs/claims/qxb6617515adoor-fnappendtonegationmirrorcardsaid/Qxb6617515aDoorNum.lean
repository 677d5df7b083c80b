/- The text of an amount, byte for byte. No Go in sight. -/
import Derived.Test.Qxb6617515aDoorApp
import Derived.Test.Qxb6617515aDoorParseN
namespace Go.Proofs.Qxb6617515aDoor
open Go.RowKit Go.Proofs Go.Lib
set_option linter.unusedVariables false

/-- The i-th byte as a number. -/
def bval (l : List UInt8) (i : Nat) : Int := ((l.getD i 0).toNat : Int)

theorem pow_nDigits_le (u : Nat) (h : 1 < nDigits u) : 10 ^ (nDigits u - 1) ≤ u := by
  induction u using Nat.strongRecOn with
  | _ u ih =>
    by_cases h10 : u < 10
    · rw [nDigits_small h10] at h; omega
    · rw [nDigits_big h10] at h ⊢
      by_cases h2 : 1 < nDigits (u / 10)
      · have := ih (u / 10) (by omega) h2
        rw [show nDigits (u / 10) + 1 - 1 = (nDigits (u / 10) - 1) + 1 by omega, Nat.pow_succ]
        omega
      · have : nDigits (u / 10) = 1 := by have := nDigits_pos (u / 10); omega
        rw [this]
        show 10 ^ 1 ≤ u
        omega

theorem dg_val (q j : Nat) : ((dg q j).toNat : Int) = 48 + ((q / 10 ^ j % 10 : Nat) : Int) := by
  unfold dg
  have : q / 10 ^ j % 10 < 10 := Nat.mod_lt _ (by omega)
  have h : (UInt8.ofNat (48 + q / 10 ^ j % 10)).toNat = 48 + q / 10 ^ j % 10 := by simp [UInt8.toNat_ofNat']; omega
  rw [h]; omega

theorem dec_get (q j : Nat) (hj : j < nDigits q) : (decDigits q).getD j 0 = dg q (nDigits q - 1 - j) := by
  rw [decDigits_eq]
  simp [List.getD, hj]

/-- What the first j digits say. -/
def Xq (q j : Nat) : Int := ((q / 10 ^ (nDigits q - j) : Nat) : Int)
theorem Xq_zero (q : Nat) : Xq q 0 = 0 := by
  unfold Xq
  rw [Nat.sub_zero, Nat.div_eq_of_lt (lt_pow_nDigits q)]; rfl
theorem Xq_all (q : Nat) : Xq q (nDigits q) = q := by
  unfold Xq
  simp
theorem Xq_succ (q j : Nat) (hj : j < nDigits q) : Xq q (j + 1) = Xq q j * 10 + ((q / 10 ^ (nDigits q - 1 - j) % 10 : Nat) : Int) := by
  unfold Xq
  rw [show nDigits q - (j + 1) = nDigits q - 1 - j by omega, show nDigits q - j = (nDigits q - 1 - j) + 1 by omega, Nat.pow_succ, ← Nat.div_div_eq_div_mul]
  omega
theorem Xq_le (q j : Nat) : 0 ≤ Xq q j ∧ Xq q j ≤ q := by
  unfold Xq
  exact ⟨Int.natCast_nonneg _, Int.ofNat_le.2 (Nat.div_le_self _ _)⟩

theorem getD_app_left {l m : List UInt8} {i : Nat} (h : i < l.length) : (l ++ m).getD i 0 = l.getD i 0 := by simp [List.getD, List.getElem?_append_left h]
theorem getD_app_right {l m : List UInt8} {i : Nat} : (l ++ m).getD (l.length + i) 0 = m.getD i 0 := by simp [List.getD, List.getElem?_append_right]

theorem d48 (t : Nat) (h : t < 10) : ((UInt8.ofNat (48 + t)).toNat : Int) = 48 + (t : Int) := by
  have : (UInt8.ofNat (48 + t)).toNat = 48 + t := by simp [UInt8.toNat_ofNat']; omega
  rw [this]; omega

theorem amt_pos (u : Nat) : amt (u : Int) = decDigits (u / 100) ++ [46, UInt8.ofNat (48 + u % 100 / 10), UInt8.ofNat (48 + u % 100 % 10)] := by
  unfold amt
  rw [if_neg (by omega)]
  simp
theorem amt_neg (u : Nat) (h : 1 ≤ u) : amt (-(u : Int)) = 45 :: amt (u : Int) := by
  rw [amt_pos]
  unfold amt
  rw [if_pos (by omega)]
  simp

theorem txt_pos (u : Nat) (hu : u ≤ 9223372036854775808) : Txt 0 (nDigits (u / 100)) (bval (amt (u : Int))) (Xq (u / 100)) ((u % 100 / 10 : Nat) : Int) ((u % 100 % 10 : Nat) : Int) := by
  have hl := decDigits_length (u / 100)
  have hdig : ∀ j, j < nDigits (u / 100) → bval (amt (u : Int)) j = 48 + ((u / 100 / 10 ^ (nDigits (u / 100) - 1 - j) % 10 : Nat) : Int) := fun j hj => by
    unfold bval
    rw [amt_pos, getD_app_left (by omega), dec_get _ _ hj, dg_val]
  have hb : ∀ i, bval (amt (u : Int)) (nDigits (u / 100) + i) = (([46, UInt8.ofNat (48 + u % 100 / 10), UInt8.ofNat (48 + u % 100 % 10)].getD i 0).toNat : Int) := fun i => by
    unfold bval
    rw [amt_pos, ← hl, getD_app_right]
  refine ⟨by omega, nDigits_pos _, (fun h => by omega), fun j hj => ?_, fun h => ?_, Xq_zero _, fun j hj => ?_, fun j hj => ?_, ?_, ?_, ?_, by omega, by omega⟩
  · rw [Nat.zero_add, hdig j hj]
    have : u / 100 / 10 ^ (nDigits (u / 100) - 1 - j) % 10 < 10 := Nat.mod_lt _ (by omega)
    omega
  · rw [hdig 0 (by omega), Nat.sub_zero]
    have h1 := pow_nDigits_le (u / 100) h
    have h2 := lt_pow_nDigits (u / 100)
    have hp : 0 < 10 ^ (nDigits (u / 100) - 1) := Nat.pow_pos (by omega)
    rw [show nDigits (u / 100) = (nDigits (u / 100) - 1) + 1 by omega, Nat.pow_succ] at h2
    have h3 : 1 ≤ u / 100 / 10 ^ (nDigits (u / 100) - 1) := (Nat.le_div_iff_mul_le hp).2 (by omega)
    have h4 : u / 100 / 10 ^ (nDigits (u / 100) - 1) < 10 := Nat.div_lt_of_lt_mul (by omega)
    have h5 : u / 100 / 10 ^ (nDigits (u / 100) - 1) % 10 = u / 100 / 10 ^ (nDigits (u / 100) - 1) := Nat.mod_eq_of_lt h4
    rw [h5]
    omega
  · rw [Nat.zero_add, hdig j hj, Xq_succ _ _ hj]; omega
  · have := Xq_le (u / 100) j
    omega
  · rw [Nat.zero_add]; exact hb 0
  · rw [Nat.zero_add]; exact (hb 1).trans (d48 _ (by omega))
  · rw [Nat.zero_add]; exact (hb 2).trans (d48 _ (by omega))

theorem amt_len (u : Nat) : (amt (u : Int)).length = nDigits (u / 100) + 3 := by
  rw [amt_pos]
  simp [decDigits_length]

theorem txt_neg (u : Nat) (h1 : 1 ≤ u) (hu : u ≤ 9223372036854775808) : Txt 1 (nDigits (u / 100)) (bval (amt (-(u : Int)))) (Xq (u / 100)) ((u % 100 / 10 : Nat) : Int) ((u % 100 % 10 : Nat) : Int) := by
  have T := txt_pos u hu
  have e : ∀ i, bval (amt (-(u : Int))) (1 + i) = bval (amt (u : Int)) (0 + i) := fun i => by
    unfold bval
    rw [amt_neg u h1, Nat.add_comm 1 i, Nat.zero_add, List.getD_cons_succ]
  refine ⟨by omega, T.nd1, fun _ => ?_, fun j hj => ?_, fun h => ?_, T.x0, fun j hj => ?_, T.xb, ?_, ?_, ?_, T.ht, T.ho⟩
  · unfold bval
    rw [amt_neg u h1]
    rfl
  · rw [e]; exact T.dig j hj
  · have := e 0
    rw [Nat.add_zero, Nat.add_zero] at this
    rw [this]; exact T.lead h
  · rw [e]; exact T.xs j hj
  · rw [e]; exact T.dot
  · rw [Nat.add_assoc, e, ← Nat.add_assoc]; exact T.ft
  · rw [Nat.add_assoc, e, ← Nat.add_assoc]; exact T.fo

theorem value_of (u : Nat) : Xq (u / 100) (nDigits (u / 100)) * 100 + (((u % 100 / 10 : Nat) : Int) * 10 + ((u % 100 % 10 : Nat) : Int)) = (u : Int) := by
  rw [Xq_all]; omega
end Go.Proofs.Qxb6617515aDoor
