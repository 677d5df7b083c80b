/- The arguments opened. -/
import Derived.Test.Qxb6623442aLawHead
import Derived.ProofKit
import Derived.OpenShut
import Derived.ChangeOld
import Derived.Deep.Matrix
namespace Go.Proofs.Qxb6623442a
open Go.ChangeShapes Go.WideShapes Go.ChangeAt Go.RowKit
set_option linter.unusedVariables false

theorem own : ownKnob Try.prog.godebug = none := by kernel_rfl
theorem laidOut : laidOutB Try.prog = true := by kernel_rfl
theorem cells23 : Try.prog.cellsOf 23 = 1 := by kernel_rfl
theorem cells3 : Try.prog.cellsOf 3 = 1 := by kernel_rfl
theorem someBlock : Try.prog.globals.size < (begin Try.prog (fun _ _ => 0) default).world.heap.size := of_decide_eq_true (by kernel_rfl)

/-- A world that the call may start from holds a block. -/
theorem pos_of_shaped {W : World} (h : W.ShapedOpen Try.prog) : 0 < W.heap.size := by
  obtain ⟨o, o₀, h1, _⟩ := h.2 Try.prog.globals.size (Nat.le_refl _) someBlock
  have := (Array.getElem?_eq_some_iff.1 h1).1
  omega

theorem addr_plain {w : World} {a : Addr} {v : Value} (h : w.cell? a = some v) : a.spot = none := World.cell?_spot h

section
variable {H : Type} {enc : TypeId × Value → H} {W : World} {held : Bool}

/-- A slice of ints that came in. -/
theorem ints_of {fuel : Nat} {a : Option Addr} {n c : Nat} {x : DataW H × List MemPlace} (h : DataW.trod enc Try.prog W 0 (fun _ => true) held fuel 23 (Value.slice a n c).cells.toList = some x) :
    ∃ f : Nat → Int, (a = none → n = 0) ∧ SlF (fun b => b < W.heap.size) W a n f := by
  rcases open_ints Try.underlying23 Try.underlying3 cells3 h with ⟨hcs, _⟩ | ⟨y, l, cp, zs, hcs, _, hl, hm, hz, _, hcell, _⟩
  · simp [Value.cells] at hcs
    obtain ⟨rfl, rfl, rfl⟩ := hcs
    exact ⟨fun _ => 0, fun _ => rfl, SlF.zero _ _ _ _⟩
  · simp [Value.cells] at hcs
    obtain ⟨rfl, rfl, rfl⟩ := hcs
    simp only [if_true] at hz
    refine ⟨fun i => zs.getD i 0, (fun h => by cases h), fun hn => ?_⟩
    obtain ⟨b, off, spot⟩ := y
    have hspot : spot = none := by simpa [Addr.add] using addr_plain (hcell 0 (by omega))
    subst hspot
    exact ⟨b, off, rfl, World.block_lt_of_cell? _ _ (hcell 0 (by omega)), fun i hi => by rw [← add_plain]; exact hcell i (by omega)⟩

/-- A slice of slices of ints that came in. -/
theorem rows_of {fuel : Nat} {a : Option Addr} {n c : Nat} {x : DataW H × List MemPlace} (h : DataW.trod enc Try.prog W 0 (fun _ => true) held fuel 22 (Value.slice a n c).cells.toList = some x) :
    ∃ (A : Nat → Option Addr) (L C : Nat → Nat) (Z : Nat → Nat → Int), (a = none → n = 0) ∧ (∀ r, r < n → A r = none → L r = 0) ∧ RowsF (fun b => b < W.heap.size) W a n A L C Z := by
  rcases Go.Deep.open_int_rows Try.underlying22 Try.underlying23 Try.underlying3 cells23 cells3 h with ⟨hcs, _⟩ | ⟨y, l, cp, A, L, C, Z, hcs, _, hl, hm, _, hr⟩
  · simp [Value.cells] at hcs
    obtain ⟨rfl, rfl, rfl⟩ := hcs
    exact ⟨fun _ => none, fun _ => 0, fun _ => 0, fun _ _ => 0, fun _ => rfl, fun r hr => absurd hr (Nat.not_lt_zero _), fun h => absurd h (Nat.lt_irrefl _)⟩
  · simp [Value.cells] at hcs
    obtain ⟨rfl, rfl, rfl⟩ := hcs
    refine ⟨A, L, C, fun r j => (Z r).getD j 0, (fun h => by cases h), fun r hr' ha => ?_, fun hn => ?_⟩
    · obtain ⟨_, h1, _, _, _, h2, _⟩ := hr r (by omega)
      have := h2 ha
      omega
    · obtain ⟨b, off, spot⟩ := y
      have hspot : spot = none := by simpa [Addr.add] using addr_plain (hr 0 (by omega)).1
      subst hspot
      refine ⟨b, off, rfl, World.block_lt_of_cell? _ _ (hr 0 (by omega)).1, fun r hr' => ?_⟩
      obtain ⟨h0, h1, _, _, _, h2, h3⟩ := hr r (by omega)
      refine ⟨by rw [← add_plain]; exact h0, fun hL => ?_⟩
      cases hA : A r with
      | none => have := h2 hA; omega
      | some y' =>
        obtain ⟨_, h4⟩ := h3 y' hA
        obtain ⟨b', off', spot'⟩ := y'
        have hspot' : spot' = none := by simpa [Addr.add] using addr_plain (h4 0 (by omega))
        subst hspot'
        exact ⟨b', off', rfl, World.block_lt_of_cell? _ _ (h4 0 (by omega)), fun i hi => by rw [← add_plain]; exact h4 i (by omega)⟩
end
end Go.Proofs.Qxb6623442a
