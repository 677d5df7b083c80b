/- The contracts, one for every amount. -/
import Derived.Test.Qxb6617515aDoorOwn
namespace Go.Proofs.Qxb6617515aDoor
open Go.RowKit Go.Proofs Go.Lib
set_option linter.unusedVariables false

theorem append_any (B n : Nat) (a : Int) (h0 : -9223372036854775808 ≤ a) (h1 : a ≤ 9223372036854775807) (sv : Value) (xs : List Value) (w : World) (hown : w.ownsRow B 5 1 sv n xs) (hBw : B ≤ w.heap.size) (hlim : n ≤ 1048576)
    (htab : Lib.TabBelow Tryd.prog B w powN .u64 Lib.pow10Tab) :
    Calls Tryd.prog 6 #[.int .i64 a, sv] w (UPost B n xs (amt a) w) := by
  by_cases h : a < 0
  · obtain ⟨u, rfl⟩ : ∃ u : Nat, a = -(u : Int) := ⟨a.natAbs, by omega⟩
    exact append_neg B n u (by omega) (by omega) sv xs w hown hBw hlim htab
  · obtain ⟨u, rfl⟩ : ∃ u : Nat, a = (u : Int) := ⟨a.toNat, by omega⟩
    exact append_nonneg B n u (by omega) sv xs w hown hBw hlim htab.here

theorem amt_len_pos (a : Int) : 4 ≤ (amt a).length ∧ (amt a).length ≤ (amt (a.natAbs : Int)).length + 1 := by
  by_cases h : a < 0
  · obtain ⟨u, rfl⟩ : ∃ u : Nat, a = -(u : Int) := ⟨a.natAbs, by omega⟩
    have := nDigits_pos (u / 100)
    rw [amt_neg u (by omega)]
    simp [amt_len]
  · obtain ⟨u, rfl⟩ : ∃ u : Nat, a = (u : Int) := ⟨a.toNat, by omega⟩
    have := nDigits_pos (u / 100)
    simp [amt_len]
    omega

theorem parse_amt (b off c : Nat) (a : Int) (w : World) (h0 : -9223372036854775808 ≤ a) (h1 : a ≤ 9223372036854775807)
    (hf : ∀ i, i < (amt a).length → w.cell? ⟨b, off + i, none⟩ = some (.int .u8 (bval (amt a) i))) :
    Calls Tryd.prog 8 #[.slice (some ⟨b, off, none⟩) (amt a).length c] w (ParPost w a) := by
  by_cases h : a < 0
  · obtain ⟨u, rfl⟩ : ∃ u : Nat, a = -(u : Int) := ⟨a.natAbs, by omega⟩
    have hn := nDigits_le20 (u / 100) (by omega)
    have hv := value_of u
    have hl : (amt (-(u : Int))).length = nDigits (u / 100) + 4 := by rw [amt_neg u (by omega)]; simp [amt_len]
    have := parse_neg b off (nDigits (u / 100)) c (bval (amt (-(u : Int)))) (Xq (u / 100)) _ _ w hn (txt_neg u (by omega) (by omega)) (by rw [hv]; omega) (by rw [hv]; omega) (fun i hi => hf i (by omega))
    rw [hv] at this
    rw [hl]
    exact this
  · obtain ⟨u, rfl⟩ : ∃ u : Nat, a = (u : Int) := ⟨a.toNat, by omega⟩
    have hn := nDigits_le20 (u / 100) (by omega)
    have hv := value_of u
    have hl := amt_len u
    have := parse_pos b off (nDigits (u / 100)) c (bval (amt (u : Int))) (Xq (u / 100)) _ _ w hn (txt_pos u (by omega)) (by rw [hv]; omega) (fun i hi => hf i (by omega))
    rw [hv] at this
    rw [hl]
    exact this
end Go.Proofs.Qxb6617515aDoor
