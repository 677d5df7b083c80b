/- What an owned slice reads as. -/
import Derived.Test.Qxb6617515aDoorNum
namespace Go.Proofs.Qxb6617515aDoor
open Go.RowKit Go.Proofs Go.Lib
set_option linter.unusedVariables false

/-- f's first n bytes, then l. -/
def cat (n : Nat) (f : Nat → Int) (l : List UInt8) (j : Nat) : Int := if j < n then f j else bval l (j - n)

theorem cells_get (n : Nat) (f : Nat → Int) (l : List UInt8) (j : Nat) (hj : j < n + l.length) : (cellsF n f ++ byteCells l)[j]? = some (.int .u8 (cat n f l j)) := by
  have hl : (cellsF n f).length = n := by simp [cellsF]
  unfold cat
  by_cases h : j < n
  · rw [if_pos h, List.getElem?_append_left (by omega)]
    simp [cellsF, h]
  · rw [if_neg h, List.getElem?_append_right (by omega), hl]
    have h2 : j - n < l.length := by omega
    simp [byteCells, bval, List.getD, List.getElem?_eq_getElem h2]

theorem owns_open {w : World} {B n : Nat} {f : Nat → Int} {l : List UInt8} {v : Value} (h : w.ownsRow B 5 1 v (n + l.length) (cellsF n f ++ byteCells l)) (hl : 0 < l.length) :
    ∃ g cap, v = .slice (some ⟨g, 0, none⟩) (n + l.length) cap ∧ B ≤ g ∧ g < w.heap.size ∧ n + l.length ≤ cap ∧ cap ≤ maxLen ∧ ∀ j, j < n + l.length → w.cell? ⟨g, j, none⟩ = some (.int .u8 (cat n f l j)) := by
  rcases h.2 with ⟨_, h0⟩ | ⟨g, cap, cur, rfl, hB, hg, hc, hm, hs, ht⟩
  · omega
  · refine ⟨g, cap, rfl, hB, (Array.getElem?_eq_some_iff.1 hg).1, hc, hm, fun j hj => ?_⟩
    rw [← cells_get n f l j hj, ← ht]
    have hjc : j < cur.size := by omega
    simp [World.cell?, hg, hj]

/-- What a clone reads as. -/
theorem owns_clone {w : World} {B n : Nat} {f : Nat → Int} {v : Value} (h : w.ownsRow B 5 1 v n (cellsF n f)) : ∃ a cap, v = .slice a n cap ∧ ByF w a n f ∧ ∀ p, a = some p → B ≤ p.block ∧ p.block < w.heap.size := by
  rcases h.2 with ⟨rfl, rfl⟩ | ⟨g, cap, cur, rfl, hB, hg, hc, hm, hs, ht⟩
  · exact ⟨none, 0, rfl, fun h => absurd h (Nat.lt_irrefl _), fun p hp => by cases hp⟩
  · refine ⟨some ⟨g, 0, none⟩, cap, rfl, fun h0 => ⟨g, 0, rfl, fun j hj => ?_⟩, fun p hp => by cases hp; exact ⟨hB, (Array.getElem?_eq_some_iff.1 hg).1⟩⟩
    have h1 : (cellsF n f)[j]? = some (.int .u8 (f j)) := by simp [cellsF, hj]
    rw [← h1, ← ht]
    have hjc : j < cur.size := by omega
    simp [World.cell?, hg, hj]
end Go.Proofs.Qxb6617515aDoor
