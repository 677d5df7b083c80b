/- The row's step: 'Rows.FnAppendToNegationMirrorSaid', off the guide's shell. -/
import Derived.Test.Qxb6617515aDoorRows
import Derived.Test.Qxb6617515aDoorLawM
import Derived.WalkKit
import Derived.ProofKit
import Derived.OpenShut
import Derived.ChangeOld
import Derived.Below
import Derived.LaidLaws
import Derived.Lib.LaidTab
import Derived.Stop.LaidErr
namespace Go.Proofs.Qxb6617515aDoor
open Go.ChangeShapes Go.WideShapes Go.ChangeAt Go.RowKit
set_option linter.unusedVariables false

theorem own : ownKnob Tryd.prog.godebug = none := by kernel_rfl
theorem laidOut : laidOutB Tryd.prog = true := by kernel_rfl
theorem cells5 : Tryd.prog.cellsOf 5 = 1 := by kernel_rfl
theorem cells29 : Tryd.prog.cellsOf 29 = 1 := by kernel_rfl
theorem cells40 : Tryd.prog.cellsOf 40 = 20 := by kernel_rfl
theorem pow : Tryd.prog.globalNamed powN = some 0 := by kernel_rfl
theorem powType : (Tryd.prog.globals[0]?).map (·.type) = some 40 := by kernel_rfl

/-- The row's list. -/
abbrev theLaid : List (String × DataW Unit) := Rows.fnAppendToNegationMirrorRow.laid

theorem pow_of_laid {W : World} (h : laidMet Tryd.prog theLaid W) : Lib.TabIs Tryd.prog W powN .u64 Lib.pow10Tab :=
  Lib.tabIs_of_head (rest := []) pow powType Tryd.underlying40 Tryd.underlying29 cells29 cells40 (laidMet.tail (laidMet.tail h))

/-- The first three blocks of a heap, the three variables', laid. -/
def lay3 (h : Array Obj) : Array Obj := ((h.modify 0 fun
      | .cells _ t frozen => .cells #[.int .u64 1, .int .u64 10, .int .u64 100, .int .u64 1000, .int .u64 10000, .int .u64 100000, .int .u64 1000000, .int .u64 10000000, .int .u64 100000000, .int .u64 1000000000, .int .u64 10000000000, .int .u64 100000000000, .int .u64 1000000000000, .int .u64 10000000000000, .int .u64 100000000000000, .int .u64 1000000000000000, .int .u64 10000000000000000, .int .u64 100000000000000000, .int .u64 1000000000000000000, .int .u64 10000000000000000000] t frozen
      | o => o).modify 1 fun
      | .cells _ t frozen => .cells #[.int .u8 0, .int .u8 1, .int .u8 28, .int .u8 2, .int .u8 29, .int .u8 14, .int .u8 24, .int .u8 3, .int .u8 30, .int .u8 22, .int .u8 20, .int .u8 15, .int .u8 25, .int .u8 17, .int .u8 4, .int .u8 8, .int .u8 31, .int .u8 27, .int .u8 13, .int .u8 23, .int .u8 21, .int .u8 19, .int .u8 16, .int .u8 7, .int .u8 26, .int .u8 12, .int .u8 18, .int .u8 6, .int .u8 11, .int .u8 5, .int .u8 10, .int .u8 9] t frozen
      | o => o).modify 2 fun
      | .cells _ t frozen => .cells #[.int .u8 0, .int .u8 1, .int .u8 56, .int .u8 2, .int .u8 57, .int .u8 49, .int .u8 28, .int .u8 3, .int .u8 61, .int .u8 58, .int .u8 42, .int .u8 50, .int .u8 38, .int .u8 29, .int .u8 17, .int .u8 4, .int .u8 62, .int .u8 47, .int .u8 59, .int .u8 36, .int .u8 45, .int .u8 43, .int .u8 51, .int .u8 22, .int .u8 53, .int .u8 39, .int .u8 33, .int .u8 30, .int .u8 24, .int .u8 18, .int .u8 12, .int .u8 5, .int .u8 63, .int .u8 55, .int .u8 48, .int .u8 27, .int .u8 60, .int .u8 41, .int .u8 37, .int .u8 16, .int .u8 46, .int .u8 35, .int .u8 44, .int .u8 21, .int .u8 52, .int .u8 32, .int .u8 23, .int .u8 11, .int .u8 54, .int .u8 26, .int .u8 40, .int .u8 15, .int .u8 34, .int .u8 20, .int .u8 31, .int .u8 10, .int .u8 25, .int .u8 14, .int .u8 19, .int .u8 9, .int .u8 13, .int .u8 8, .int .u8 7, .int .u8 6] t frozen
      | o => o
/-- w with them laid. -/
def laidOn (w : World) : World := { w with heap := lay3 w.heap }
theorem laidWorld_met (os : Os) (args : Array Value) : laidMet Tryd.prog theLaid ((laidOn (World.holding Tryd.prog os ⟨#[], #[], []⟩)).forCall (fun _ _ => 0) ⟨#[], args, []⟩).memory :=
  laidMet_of_run' 8 (by kernel_rfl) (by kernel_rfl)

theorem bounds_i64 {n : Int} (h : (Lit.int .i64 n).wf = true) : -9223372036854775808 ≤ n ∧ n ≤ 9223372036854775807 := by
  simp [Lit.wf, IntKind.min, IntKind.max, IntKind.signed, IntKind.bits] at h
  omega

section
variable {H : Type} {enc : TypeId × Value → H} {W : World} {held : Bool}
/-- A slice of bytes that came in. -/
theorem bytes_of {fuel : Nat} {a : Option Addr} {n c : Nat} {x : DataW H × List MemPlace} (h : DataW.trod enc Tryd.prog W 0 (fun _ => true) held fuel 22 (Value.slice a n c).cells.toList = some x) :
    ∃ I : Nat → Int, (a = none → n = 0 ∧ c = 0) ∧ (∀ p, a = some p → 0 < n → p.block < W.heap.size) ∧ ByF W a n I := by
  rcases open_ints Tryd.underlying22 Tryd.underlying5 cells5 h with ⟨hcs, _⟩ | ⟨y, l, cp, zs, hcs, _, hl, hm, hz, _, hcell, hwf⟩
  · simp [Value.cells] at hcs
    obtain ⟨rfl, rfl, rfl⟩ := hcs
    exact ⟨fun _ => 0, fun _ => ⟨rfl, rfl⟩, (fun p h => by cases h), fun h => absurd h (by omega)⟩
  · simp [Value.cells] at hcs
    obtain ⟨rfl, rfl, rfl⟩ := hcs
    simp only [if_true] at hz
    obtain ⟨b, off, spot⟩ := y
    have hspot : 0 < n → spot = none := fun hn => by simpa [Addr.add] using World.cell?_spot (hcell 0 (by omega))
    refine ⟨fun i => zs.getD i 0, (fun h => by cases h), fun p hp hn => ?_, fun hn => ?_⟩
    · cases hp
      exact World.block_lt_of_cell? _ _ (hcell 0 (by omega))
    · obtain rfl := hspot hn
      exact ⟨b, off, rfl, fun i hi => by rw [← Go.WideShapes.add_plain]; exact hcell i (by omega)⟩
end

theorem law_any (s : Option Addr) (n c : Nat) (f : Nat → Int) (a : Int) (w : World) (h0 : -9223372036854775808 ≤ a) (h1 : a ≤ 9223372036854775807) (hs : s = none → n = 0 ∧ c = 0) (hp : ∀ p, s = some p → 0 < n → p.block < w.heap.size) (hf : ByF w s n f)
    (htab : Lib.TabIs Tryd.prog w powN .u64 Lib.pow10Tab) : Calls Tryd.prog 3 #[.int .i64 a, .slice s n c] w (LawPost w) := by
  by_cases hn : 65536 < n
  · exact law_big s n c a w hn
  · exact law_main s n c f a w h0 h1 (by omega) hs hp hf htab (Lib.tabBelow_of_tabIs htab)

set_option maxRecDepth 100000 in
theorem lifted (os : Os) (started : os.Started) (H : Type) (enc : TypeId × Value → H) :
    ReturnsInHanded {} Tryd.checked os 3 .any (fun w args => (Rows.fnAppendToNegationMirrorSpec.pre enc Tryd.prog Tryd.f3 [] false w args ∧ laidMet Tryd.prog theLaid w) ∧ sizedMet enc Tryd.prog Tryd.f3 (OpenSpec.ofChange Rows.fnAppendToNegationMirrorSpec) false w args)
      (Rows.fnAppendToNegationMirrorSpec.post enc Tryd.prog Tryd.f3 false true false false) := by
  refine returnsInHanded_of_change_and (C := Tryd.checked) (X := fun w _ => laidMet Tryd.prog theLaid w) (fun _ _ _ hh h => h.of_heap hh) own started (by kernel_rfl) Tryd.func3
    (ChangeSpec.witness_at (enc := enc) (C := Tryd.checked) (os := os) (X := fun w _ => laidMet Tryd.prog theLaid w) false (laidOn (World.holding Tryd.prog os ⟨#[], #[], []⟩)) #[.int .i64 0, .slice none 0 0] 8 rfl (by kernel_rfl) (by kernel_rfl) (by kernel_rfl) (by kernel_rfl) (by kernel_rfl) (laidWorld_met os _)) ?_
  intro W base args ds gs before hval0 hW _ _ hL _
  have hval : ∀ (j : Nat) t v, Tryd.f3.params[j]? = some t → args[j]? = some v → Value.okWide Tryd.prog W .any base t v := hval0
  have hW' := hW
  obtain ⟨p, q, hA0, hV, rfl, hfz, hnd⟩ := hW
  have hA : DataW.TrodAll enc Tryd.prog W 0 (fun _ => true) true Tryd.f3.params.toList args.toList ds p := hA0
  rw [Tryd.params3] at hA hval
  obtain ⟨v0, v1, d0, d1, p0, p1, rfl, rfl, rfl, h0, h1⟩ := trodAll_two hA
  obtain ⟨rfl, rfl⟩ := trodVars_none hV
  obtain ⟨a, rfl, rfl, rfl, wa⟩ := open_int Tryd.underlying2 (hval 0 2 v0 rfl rfl) h0
  obtain ⟨s, n, c, rfl⟩ := okWide_slice Tryd.underlying22 (hval 1 22 v1 rfl rfl)
  have k1 := h1
  have lt1 : ∀ x ∈ p1, x.block < W.heap.size := by obtain ⟨m, hm⟩ := k1; exact DataW.trod_lt m _ _ _ hm
  obtain ⟨I, hs, hp, hf⟩ : ∃ I : Nat → Int, (s = none → n = 0 ∧ c = 0) ∧ (∀ p, s = some p → 0 < n → p.block < W.heap.size) ∧ ByF W s n I := by
    obtain ⟨fuel, hf⟩ := h1
    exact bytes_of hf
  clear hA0 hval0
  refine (law_any s n c I a W (bounds_i64 wa).1 (bounds_i64 wa).2 hs hp hf (pow_of_laid hL)).mono fun e W' ⟨he, bel⟩ => ?_
  subst he
  exact ⟨_, rfl, _, _, _, [], _, [], hW', trodAll_mk1 (shut_bool Tryd.underlying4 _), (trodAll_mk2 (shut_int Tryd.underlying2 wa) (Below.trod laidOut (by kernel_rfl) (of_decide_eq_true (by kernel_rfl)) k1 bel lt1)), rfl, bel.frame _, fun h => by cases h⟩

theorem row_holds : Rows.FnAppendToNegationMirrorSaid :=
  OpenClaim.holds_of_wide 3 Tryd.f3 rfl rfl rfl rfl rfl rfl rfl ⟨rfl, rfl, rfl, rfl, rfl⟩ rfl rfl rfl rfl rfl (by kernel_rfl) Tryd.func3 (by kernel_rfl)
    (of_decide_eq_true (by kernel_rfl)) (by unfold Func.isWrapper; first | (rw [if_pos (by decide +kernel)]; kernel_rfl) | (rw [if_neg (by decide +kernel)]; exact ⟨rfl, rfl⟩))
    (fun os started H enc _ => lifted os started H enc)
end Go.Proofs.Qxb6617515aDoor
