/- copy of a slice of pairs into a made one. -/
import Derived.Test.Qxb6623513aZz
import Derived.Laws.IdiomCopy
namespace Go.Proofs.Qxb6623513a
open Go.RowKit
set_option linter.unusedVariables false

theorem rowIs_setCells (b t n : Nat) : ∀ (vs : List Value) (o : Nat) (w : World) (f : Nat → Value), w.rowIs b t n f → (w.setCells b o vs).rowIs b t n (fun j => if o ≤ j then (if h : j - o < vs.length then vs[j - o] else f j) else f j)
  | [], o, w, f, h => h.congr (fun i hi => by simp)
  | v :: r, o, w, f, h => by
    refine (rowIs_setCells b t n r (o + 1) _ _ (h.set o v)).congr (fun j hj => ?_)
    by_cases e1 : o + 1 ≤ j
    · rw [if_pos e1, if_pos (show o ≤ j by omega)]
      by_cases e2 : j - (o + 1) < r.length
      · rw [dif_pos e2, dif_pos (by simp; omega)]
        have : j - o = (j - (o + 1)) + 1 := by omega
        simp [this]
      · rw [dif_neg e2, dif_neg (by simp; omega), if_neg (show ¬ j = o by omega)]
    · rw [if_neg e1]
      by_cases e2 : j = o
      · subst e2
        rw [if_pos rfl, if_pos (Nat.le_refl _), dif_pos (by simp)]
        simp
      · rw [if_neg e2, if_neg (show ¬ o ≤ j by omega)]
theorem below_setCells (b : Nat) : ∀ (vs : List Value) (o : Nat) {B : Nat} {w0 w : World}, Below B w0 w → B ≤ b → Below B w0 (w.setCells b o vs)
  | [], _, _, _, _, h, _ => h
  | v :: r, o, _, _, _, h, hb => below_setCells b r (o + 1) (h.setCell hb v) hb
theorem size_setCells (b : Nat) : ∀ (vs : List Value) (o : Nat) (w : World), (w.setCells b o vs).heap.size = w.heap.size
  | [], _, _ => rfl
  | v :: r, o, w => by rw [World.setCells, size_setCells b r]; simp

theorem elt_one (K0 K1 : Nat → Int) (m i : Nat) : (elt m K0 K1 i).oneCell' = true := by
  unfold elt
  split
  · rfl
  split
  · rfl
  split
  · rfl
  split
  · rfl
  split <;> rfl

/-- 'copy(zzc, keys)'. -/
theorem copy_pairs (g nk kc : Nat) (p : Addr) (ty : TypeId) (K0 K1 : Nat → Int) (f0 f1 : Nat → Int) (w : World) (hR : Prs 2 w g 31 nk f0 f1)
    (hk : 0 < nk → ∃ kb ko, p = ⟨kb, ko, none⟩ ∧ ∀ i, i < nk → w.cell? ⟨kb, ko + i * 2, none⟩ = some (.int .u64 (K0 i)) ∧ w.cell? ⟨kb, ko + i * 2 + 1, none⟩ = some (.int .u64 (K1 i))) :
    ∃ w', (Builtin.copy_ #[22, 22] ty #[.slice (some ⟨g, 0, none⟩) nk nk, .slice (some p) nk kc]).run Try.prog w = .ok (goInt nk) w' ∧ Prs 2 w' g 31 nk K0 K1 ∧ Below g w w' ∧ w'.heap.size = w.heap.size := by
  let cs : List Value := (List.range (nk * 2)).map (elt 2 K0 K1)
  have hlen : cs.length = nk * 2 := by simp [cs]
  have hsrc : ∀ j v, cs[j]? = some v → w.cell? (p.add j) = some v := by
    intro j v hj
    have hjl : j < nk * 2 := by rw [← hlen]; exact (List.getElem?_eq_some_iff.1 hj).1
    have hv : v = elt 2 K0 K1 j := by simp [cs, hjl] at hj; exact hj.symm
    subst hv
    obtain ⟨kb, ko, rfl, hkk⟩ := hk (by omega)
    rw [Go.WideShapes.add_plain]
    have h2 := hkk (j / 2) (by omega)
    unfold elt
    rcases (show j % 2 = 0 ∨ j % 2 = 1 by omega) with e | e
    · rw [if_pos e, ← h2.1]
      congr 2; omega
    · rw [if_neg (by omega), if_pos e, ← h2.2]
      congr 2; omega
  have hl := run_loadCells_list (P := Try.prog) w p cs hsrc
  have hst := run_storeCells_cells (P := Try.prog) g 0 cs 0 w (fun j hj => by
      rw [hlen] at hj
      have := World.rowIs.cell hR hj
      simp [this]) (fun j hj => by simpa using World.rowIs.frozen hR j) (fun v hv => by
      obtain ⟨i, _, rfl⟩ := List.mem_map.1 hv
      exact elt_one _ _ _ _)
  obtain ⟨i, hi, hz⟩ := Option.map_eq_some_iff.1 Try.info31
  simp only [Prod.mk.injEq] at hz
  obtain ⟨hz, hs, hb⟩ := hz
  rw [hlen] at hl
  refine ⟨w.setCells g 0 cs, ?_, ?_, below_setCells g cs 0 (Below.refl _ _) (Nat.le_refl _), size_setCells _ _ _ _⟩
  · simp [Builtin.copy_, run_underlying Try.underlying22, Builtin.lenOf, Builtin.firstCells, sizeOf, typeInfo, hi, hs, hl, hst]
  · refine (rowIs_setCells g 31 (nk * 2) cs 0 w _ hR).congr (fun j hj => ?_)
    rw [if_pos (Nat.zero_le _), dif_pos (by rw [hlen]; omega)]
    simp [cs]
end Go.Proofs.Qxb6623513a
