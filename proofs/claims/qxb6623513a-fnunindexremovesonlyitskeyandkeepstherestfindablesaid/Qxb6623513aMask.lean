/- Masks by a power of two are remainders. -/
import Derived.Laws.BitsAllLaws
import Derived.WalkKit
namespace Go.Proofs.Qxb6623513a
open Go.RowKit

theorem pow_le (m : Nat) (hm : m ≤ 31) : 2 ^ m ≤ 2147483648 := by
  have h : 2 ^ m ≤ 2 ^ 31 := Nat.pow_le_pow_right (by decide) hm
  have e : 2 ^ 31 = 2147483648 := by decide
  omega

theorem ofInt_mask (n m : Nat) (hm : m ≤ n) : (BitVec.ofInt n (((2 ^ m : Nat) : Int) - 1)).toNat = 2 ^ m - 1 := by
  have h1 : 1 ≤ 2 ^ m := Nat.one_le_two_pow
  have h2 : 2 ^ m ≤ 2 ^ n := Nat.pow_le_pow_right (by decide) hm
  rw [show (((2 ^ m : Nat) : Int) - 1) = ((2 ^ m - 1 : Nat) : Int) by omega, BitVec.ofInt_natCast, BitVec.toNat_ofNat]
  exact Nat.mod_eq_of_lt (by omega)

theorem and_mask (n m : Nat) (x : Int) (hm : m ≤ n) : (((BitVec.ofInt n x &&& BitVec.ofInt n (((2 ^ m : Nat) : Int) - 1)).toNat : Nat) : Int) = x % ((2 ^ m : Nat) : Int) := by
  rw [BitVec.toNat_and, ofInt_mask n m hm, Nat.and_two_pow_sub_one_eq_mod, BitVec.toNat_ofInt]
  have h0 : (0 : Int) ≤ x % ((2 ^ n : Nat) : Int) := Int.emod_nonneg _ (by have := Nat.one_le_two_pow (n := n); omega)
  rw [Int.natCast_emod, Int.toNat_of_nonneg h0]
  refine Int.emod_emod_of_dvd _ ?_
  exact Int.natCast_dvd_natCast.2 (Nat.pow_dvd_pow 2 hm)

theorem mod_range (x : Int) (N : Nat) (hN : 1 ≤ N) : 0 ≤ x % (N : Int) ∧ x % (N : Int) < (N : Int) :=
  ⟨Int.emod_nonneg _ (by omega), Int.emod_lt_of_pos _ (by omega)⟩

theorem mask_i64 (m : Nat) (hm : m ≤ 31) (x : Int) : bits .and .i64 x (((2 ^ m : Nat) : Int) - 1) = x % ((2 ^ m : Nat) : Int) := by
  have h := pow_le m hm
  have r := mod_range x (2 ^ m) Nat.one_le_two_pow
  show IntKind.i64.wrap (((BitVec.ofInt 64 x &&& BitVec.ofInt 64 (((2 ^ m : Nat) : Int) - 1)).toNat : Nat) : Int) = _
  rw [and_mask 64 m x (by omega), IntKind.wrap_i64]
  omega

theorem mask_u32 (m : Nat) (hm : m ≤ 31) (x : Int) : bits .and .u32 x (((2 ^ m : Nat) : Int) - 1) = x % ((2 ^ m : Nat) : Int) := by
  have h := pow_le m hm
  have r := mod_range x (2 ^ m) Nat.one_le_two_pow
  show IntKind.u32.wrap (((BitVec.ofInt 32 x &&& BitVec.ofInt 32 (((2 ^ m : Nat) : Int) - 1)).toNat : Nat) : Int) = _
  rw [and_mask 32 m x (by omega), IntKind.wrap_u32']
  omega

theorem mask_u64 (m : Nat) (hm : m ≤ 31) (x : Int) : bits .and .u64 x (((2 ^ m : Nat) : Int) - 1) = x % ((2 ^ m : Nat) : Int) := by
  have h := pow_le m hm
  have r := mod_range x (2 ^ m) Nat.one_le_two_pow
  show IntKind.u64.wrap (((BitVec.ofInt 64 x &&& BitVec.ofInt 64 (((2 ^ m : Nat) : Int) - 1)).toNat : Nat) : Int) = _
  have hw : ∀ n : Int, IntKind.u64.wrap n = n % 18446744073709551616 := fun n => by simp [IntKind.wrap, IntKind.bits, IntKind.signed]
  rw [and_mask 64 m x (by omega), hw]
  exact Int.emod_eq_of_lt r.1 (by omega)

theorem and_i64_nat (a b : Nat) (ha : a < 2147483648) (hb : b < 2147483648) : bits .and .i64 (a : Int) (b : Int) = ((a &&& b : Nat) : Int) := by
  have hx : a &&& b < 2 ^ 31 := Nat.and_lt_two_pow _ (by omega)
  show IntKind.i64.wrap ((BitVec.ofInt 64 (a : Int) &&& BitVec.ofInt 64 (b : Int)).toNat : Int) = _
  rw [BitVec.toNat_and, ofInt_u64 a (by omega), ofInt_u64 b (by omega), IntKind.wrap_i64]
  omega

/-- 'size & (size-1) == 0', size at least 1: a power of two. -/
theorem pow_of_and (N : Nat) (h1 : 1 ≤ N) (h2 : N < 2147483648) (h : bits .and .i64 (N : Int) ((N : Int) - 1) = 0) : ∃ m, m ≤ 31 ∧ N = 2 ^ m := by
  rw [show ((N : Int) - 1) = ((N - 1 : Nat) : Int) by omega, and_i64_nat N (N - 1) h2 (by omega)] at h
  have h0 : N &&& (N - 1) = 0 := by omega
  obtain ⟨m, hm⟩ := (Nat.and_sub_one_eq_zero_iff_isPowerOfTwo (by omega)).1 h0
  refine ⟨m, ?_, hm⟩
  refine Nat.le_of_not_lt fun hgt => ?_
  have : 2 ^ 32 ≤ 2 ^ m := Nat.pow_le_pow_right (by decide) (by omega)
  have e : 2 ^ 32 = 4294967296 := by decide
  omega

#print axioms pow_of_and
#print axioms mask_i64
#print axioms mask_u32
end Go.Proofs.Qxb6623513a
