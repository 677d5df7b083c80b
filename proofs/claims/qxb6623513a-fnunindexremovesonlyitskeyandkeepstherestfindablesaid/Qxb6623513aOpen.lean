/- The arguments opened. -/
import Derived.Test.Qxb6623513aLaw3S
import Derived.ProofKit
import Derived.OpenShut
import Derived.ChangeOld
import Derived.Deep.Slices
namespace Go.Proofs.Qxb6623513a
open Go.ChangeShapes Go.WideShapes Go.ChangeAt Go.RowKit
set_option linter.unusedVariables false

theorem own : ownKnob Try.prog.godebug = none := by kernel_rfl
theorem laidOut : laidOutB Try.prog = true := by kernel_rfl
theorem cells31 : Try.prog.cellsOf 31 = 2 := by kernel_rfl
theorem cells30 : Try.prog.cellsOf 30 = 1 := by kernel_rfl
theorem cells29 : Try.prog.cellsOf 29 = 1 := by kernel_rfl

theorem bounds_u32' {n : Int} (h : (Lit.int .u32 n).wf = true) : 0 ≤ n ∧ n < 4294967296 := by
  simp [Lit.wf, IntKind.min, IntKind.max, IntKind.signed, IntKind.bits] at h
  omega

section
variable {H : Type} {enc : TypeId × Value → H} {W : World} {held : Bool}

/-- A slice of numbers uint32 that came in. -/
theorem idx_of {fuel : Nat} {a : Option Addr} {n c : Nat} {x : DataW H × List MemPlace} (h : DataW.trod enc Try.prog W 0 (fun _ => true) held fuel 23 (Value.slice a n c).cells.toList = some x) :
    ∃ I : Nat → Int, (1 ≤ n → ∃ b off, a = some ⟨b, off, none⟩ ∧ b < W.heap.size ∧ IdxF W b off n I) ∧ ∀ i, i < n → 0 ≤ I i ∧ I i < 4294967296 := by
  rcases open_ints Try.underlying23 Try.underlying29 cells29 h with ⟨hcs, _⟩ | ⟨y, l, cp, zs, hcs, _, hl, hm, hz, _, hcell, hwf⟩
  · simp [Value.cells] at hcs
    obtain ⟨rfl, rfl, rfl⟩ := hcs
    exact ⟨fun _ => 0, fun h => absurd h (by omega), fun i hi => absurd hi (Nat.not_lt_zero _)⟩
  · simp [Value.cells] at hcs
    obtain ⟨rfl, rfl, rfl⟩ := hcs
    simp only [if_true] at hz
    refine ⟨fun i => zs.getD i 0, fun hn => ?_, fun i hi => ?_⟩
    · obtain ⟨b, off, spot⟩ := y
      have hspot : spot = none := by simpa [Addr.add] using World.cell?_spot (hcell 0 (by omega))
      subst hspot
      exact ⟨b, off, rfl, World.block_lt_of_cell? _ _ (hcell 0 (by omega)), fun i hi => by rw [← add_plain]; exact hcell i (by omega)⟩
    · have hlt : i < zs.length := by omega
      refine bounds_u32' (hwf _ ?_)
      simp [List.getD, List.getElem?_eq_getElem hlt]

/-- A slice of pairs that came in. -/
theorem pairs_of {fuel : Nat} {a : Option Addr} {n c : Nat} {x : DataW H × List MemPlace} (h : DataW.trod enc Try.prog W 0 (fun _ => true) held fuel 22 (Value.slice a n c).cells.toList = some x) :
    ∃ K0 K1 : Nat → Int, (a = none → n = 0) ∧ ∀ p, a = some p → KeysP W p n K0 K1 := by
  rcases Go.Deep.open_slice Try.underlying22 h with ⟨hcs, _⟩ | ⟨y, l, cp, m, q, D, Pl, hcs, _, hl, hm, hmm, _, hall⟩
  · simp [Value.cells] at hcs
    obtain ⟨rfl, rfl, rfl⟩ := hcs
    exact ⟨fun _ => 0, fun _ => 0, fun _ => rfl, fun p hp => by cases hp⟩
  · simp [Value.cells] at hcs
    obtain ⟨rfl, rfl, rfl⟩ := hcs
    simp only [if_true] at hmm
    have key : ∀ i, i < n → ∃ z : Int × Int, W.cell? (y.add (i * 2)) = some (.int .u64 z.1) ∧ W.cell? (y.add (i * 2 + 1)) = some (.int .u64 z.2) := fun i hi => by
      obtain ⟨cs', h1, h2⟩ := hall i (by omega)
      rw [cells31] at h1
      obtain ⟨hb, hlen, hcell⟩ := World.cells?_some h1
      obtain ⟨xs, mm, _, _, _, hxl, hx⟩ := DataW.trod_array Try.underlying31 h2
      have e0 := hx 0 (by omega)
      have e1 := hx 1 (by omega)
      rw [cells30] at e0 e1
      rw [List.getElem?_eq_getElem (by omega)] at e0 e1
      obtain ⟨c0, c1, rfl⟩ : ∃ c0 c1, cs' = [c0, c1] := by
        match cs', hlen with
        | [a, b], _ => exact ⟨a, b, rfl⟩
      simp at e0 e1
      obtain ⟨z0, hz0, _, _⟩ := DataW.trod_int Try.underlying30 e0
      obtain ⟨z1, hz1, _, _⟩ := DataW.trod_int Try.underlying30 e1
      have f0 := hcell 0 (by omega)
      have f1 := hcell 1 (by omega)
      simp at hz0 hz1
      subst hz0 hz1
      rw [Go.Deep.add_add] at f0 f1
      exact ⟨(z0, z1), by simpa using f0, by simpa using f1⟩
    obtain ⟨F, hF⟩ := Go.Deep.choose_lt key
    refine ⟨fun i => (F i).1, fun i => (F i).2, (fun h => by cases h), fun p hp hn => ?_⟩
    cases hp
    obtain ⟨b, off, spot⟩ := y
    have hspot : spot = none := by simpa [Addr.add] using World.cell?_spot (hF 0 hn).1
    subst hspot
    refine ⟨b, off, rfl, ?_, fun i hi => ?_⟩
    · have := World.block_lt_of_cell? _ _ (hF 0 hn).1
      rwa [add_plain] at this
    · have := hF i hi
      rw [add_plain, add_plain] at this
      exact ⟨this.1, by rw [Nat.add_assoc]; exact this.2⟩
end
end Go.Proofs.Qxb6623513a
