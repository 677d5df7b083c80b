/- The row's step: 'Rows.FnPathsTableJoinsExactlyTheConflictingRecentActionsSaid'. -/
import Derived.Test.Qxb6623442aRows
import Derived.Test.Qxb6623442aBig
import Derived.Test.Qxb6623442aLawR
import Derived.Test.Qxb6623442aLawW
import Derived.Test.Qxb6623442aOpen
import Derived.Handed
namespace Go.Proofs.Qxb6623442a
open Go.ChangeShapes Go.WideShapes Go.ChangeAt Go.RowKit
set_option linter.unusedVariables false

theorem law_any (w : World) (a0 a1 a2 a3 a4 a5 a6 : Option Addr) (n0 n1 n2 n3 n4 n5 n6 c0 c1 c2 c3 c4 c5 c6 : Nat) (A0 A3 A4 : Nat → Option Addr) (L0 L3 L4 C0 C3 C4 : Nat → Nat) (Z0 Z3 Z4 : Nat → Nat → Int) (f1 f2 f5 f6 : Nat → Int) (tx kind : Int)
    (h : LIn w a0 a1 a2 a3 a4 a5 a6 n0 n1 n2 n3 n4 n5 n6 A0 A3 A4 L0 L3 L4 C0 C3 C4 Z0 Z3 Z4 f1 f2 f5 f6) (hpos : 0 < w.heap.size) :
    Calls Try.prog 3 #[.slice a0 n0 c0, .slice a1 n1 c1, .slice a2 n2 c2, .slice a3 n3 c3, .slice a4 n4 c4, .slice a5 n5 c5, .slice a6 n6 c6, .int .i64 tx, .int .u8 kind] w (LPost w) := by
  by_cases b0 : n0 ≤ 131072
  · by_cases b1 : n1 ≤ 131072
    · by_cases b2 : n2 ≤ 131072
      · by_cases b3 : n3 ≤ 131072
        · by_cases b4 : n4 ≤ 131072
          · by_cases b5 : n5 ≤ 131072
            · by_cases b6 : n6 ≤ 131072
              · cases hwk : (kind == 2)
                · exact law_read w a0 a1 a2 a3 a4 a5 a6 n0 n1 n2 n3 n4 n5 n6 c0 c1 c2 c3 c4 c5 c6 A0 A3 A4 L0 L3 L4 C0 C3 C4 Z0 Z3 Z4 f1 f2 f5 f6 tx kind h hpos hwk b0 b1 b2 b3 b4 b5 b6
                · exact law_write w a0 a1 a2 a3 a4 a5 a6 n0 n1 n2 n3 n4 n5 n6 c0 c1 c2 c3 c4 c5 c6 A0 A3 A4 L0 L3 L4 C0 C3 C4 Z0 Z3 Z4 f1 f2 f5 f6 tx kind h hpos hwk b0 b1 b2 b3 b4 b5 b6
              · exact law_big6 w a0 a1 a2 a3 a4 a5 a6 n0 n1 n2 n3 n4 n5 n6 c0 c1 c2 c3 c4 c5 c6 A0 A3 A4 L0 L3 L4 C0 C3 C4 Z0 Z3 Z4 f1 f2 f5 f6 tx kind h b0 b1 b2 b3 b4 b5 (by omega)
            · exact law_big5 w a0 a1 a2 a3 a4 a5 a6 n0 n1 n2 n3 n4 n5 n6 c0 c1 c2 c3 c4 c5 c6 A0 A3 A4 L0 L3 L4 C0 C3 C4 Z0 Z3 Z4 f1 f2 f5 f6 tx kind h b0 b1 b2 b3 b4 (by omega)
          · exact law_big4 w a0 a1 a2 a3 a4 a5 a6 n0 n1 n2 n3 n4 n5 n6 c0 c1 c2 c3 c4 c5 c6 A0 A3 A4 L0 L3 L4 C0 C3 C4 Z0 Z3 Z4 f1 f2 f5 f6 tx kind h b0 b1 b2 b3 (by omega)
        · exact law_big3 w a0 a1 a2 a3 a4 a5 a6 n0 n1 n2 n3 n4 n5 n6 c0 c1 c2 c3 c4 c5 c6 A0 A3 A4 L0 L3 L4 C0 C3 C4 Z0 Z3 Z4 f1 f2 f5 f6 tx kind h b0 b1 b2 (by omega)
      · exact law_big2 w a0 a1 a2 a3 a4 a5 a6 n0 n1 n2 n3 n4 n5 n6 c0 c1 c2 c3 c4 c5 c6 A0 A3 A4 L0 L3 L4 C0 C3 C4 Z0 Z3 Z4 f1 f2 f5 f6 tx kind h b0 b1 (by omega)
    · exact law_big1 w a0 a1 a2 a3 a4 a5 a6 n0 n1 n2 n3 n4 n5 n6 c0 c1 c2 c3 c4 c5 c6 A0 A3 A4 L0 L3 L4 C0 C3 C4 Z0 Z3 Z4 f1 f2 f5 f6 tx kind h b0 (by omega)
  · exact law_big0 w a0 a1 a2 a3 a4 a5 a6 n0 n1 n2 n3 n4 n5 n6 c0 c1 c2 c3 c4 c5 c6 A0 A3 A4 L0 L3 L4 C0 C3 C4 Z0 Z3 Z4 f1 f2 f5 f6 tx kind h (by omega)

set_option maxRecDepth 100000 in
theorem lifted (os : Os) (started : os.Started) (H : Type) (enc : TypeId × Value → H) :
    ReturnsInHanded {} Try.checked os 3 .any (Rows.fnPathsTableJoinsExactlyTheConflictingRecentActionsSpec.pre6 enc Try.prog Try.f3 Rows.fnPathsTableJoinsExactlyTheConflictingRecentActionsRow.domain false) (Rows.fnPathsTableJoinsExactlyTheConflictingRecentActionsSpec.post enc Try.prog Try.f3 false true false false) := by
  refine returnsInHanded_of_calls (C := Try.checked) own started (by kernel_rfl)
    (ChangeSpec.witness6 (enc := enc) (C := Try.checked) false ⟨#[], #[.slice none 0 0, .slice none 0 0, .slice none 0 0, .slice none 0 0, .slice none 0 0, .slice none 0 0, .slice none 0 0, .int .i64 0, .int .u8 0], []⟩ 8 (by kernel_rfl) (by kernel_rfl) (by kernel_rfl) (by kernel_rfl)) ?_
  intro w0 tape i _ hshape _ hok hpre hholds
  obtain ⟨_, _, _, fn', hfn', _, _, _, _, hval1⟩ := hok
  have efn : fn' = Try.f3 := Option.some.inj (hfn'.symm.trans Try.func3)
  subst efn
  obtain ⟨⟨ds, gs, before, hw, _⟩, _⟩ := hpre
  have hW := DataW.Whole.of_heap (w' := w0.forCall tape i) (by rfl) hw
  have hpos : 0 < (w0.forCall tape i).heap.size := pos_of_shaped hshape
  obtain ⟨args, hargs0⟩ : ∃ a, a = i.args := ⟨_, rfl⟩
  obtain ⟨W, hWd⟩ : ∃ v, v = w0.forCall tape i := ⟨_, rfl⟩
  suffices hsuf : Calls Try.prog 3 args W fun e W' => ∃ v, e = .returned v ∧ Rows.fnPathsTableJoinsExactlyTheConflictingRecentActionsSpec.post enc Try.prog Try.f3 false true false false W args v W' by
    subst hargs0
    subst hWd
    exact hsuf.mono fun e W' ⟨v, he, hp⟩ => by subst he; exact ChangeSpec.post_blind hp
  rw [← hargs0, ← hWd] at hW
  rw [← hWd] at hpos
  have hval : ∀ (j : Nat) t v, Try.f3.params[j]? = some t → args[j]? = some v → Value.okWide Try.prog W .any w0.heap.size t v := by rw [hargs0, hWd]; exact hval1
  clear hw hval1 hshape hholds hWd hargs0
  have hW' := hW
  obtain ⟨p, q, hA0, hV, rfl, hfz, hnd⟩ := hW
  have hA : DataW.TrodAll enc Try.prog W 0 (fun _ => true) true Try.f3.params.toList args.toList ds p := hA0
  rw [Try.params3] at hA hval
  obtain ⟨v0, vs0, d0, ds0, p0, q0, hargs, rfl, rfl, h0, r0⟩ := trodAll_cons hA
  obtain ⟨v1, vs1, d1, ds1, p1, q1, rfl, rfl, rfl, h1, r1⟩ := trodAll_cons r0
  obtain ⟨v2, vs2, d2, ds2, p2, q2, rfl, rfl, rfl, h2, r2⟩ := trodAll_cons r1
  obtain ⟨v3, vs3, d3, ds3, p3, q3, rfl, rfl, rfl, h3, r3⟩ := trodAll_cons r2
  obtain ⟨v4, vs4, d4, ds4, p4, q4, rfl, rfl, rfl, h4, r4⟩ := trodAll_cons r3
  obtain ⟨v5, vs5, d5, ds5, p5, q5, rfl, rfl, rfl, h5, r5⟩ := trodAll_cons r4
  obtain ⟨v6, vs6, d6, ds6, p6, q6, rfl, rfl, rfl, h6, r6⟩ := trodAll_cons r5
  obtain ⟨v7, vs7, d7, ds7, p7, q7, rfl, rfl, rfl, h7, r7⟩ := trodAll_cons r6
  obtain ⟨v8, vs8, d8, ds8, p8, q8, rfl, rfl, rfl, h8, r8⟩ := trodAll_cons r7
  obtain ⟨rfl, rfl, rfl⟩ := trodAll_nil r8
  obtain rfl : args = #[v0, v1, v2, v3, v4, v5, v6, v7, v8] := by cases args; simp_all
  obtain ⟨rfl, rfl⟩ := trodVars_none hV
  obtain ⟨a0, len0, cap0, rfl⟩ := okWide_slice Try.underlying22 (hval 0 22 v0 rfl rfl)
  have k0 := h0
  have lt0 : ∀ x ∈ p0, x.block < W.heap.size := by obtain ⟨m, hm⟩ := k0; exact DataW.trod_lt m _ _ _ hm
  obtain ⟨A0, L0, C0, Z0, z0, y0, s0⟩ := (show ∃ (A : Nat → Option Addr) (L C : Nat → Nat) (Z : Nat → Nat → Int), (a0 = none → len0 = 0) ∧ (∀ r, r < len0 → A r = none → L r = 0) ∧ RowsF (fun b => b < W.heap.size) W a0 len0 A L C Z by
    obtain ⟨fuel, hf⟩ := h0
    exact rows_of hf)
  obtain ⟨a1, len1, cap1, rfl⟩ := okWide_slice Try.underlying23 (hval 1 23 v1 rfl rfl)
  have k1 := h1
  have lt1 : ∀ x ∈ p1, x.block < W.heap.size := by obtain ⟨m, hm⟩ := k1; exact DataW.trod_lt m _ _ _ hm
  obtain ⟨f1, z1, s1⟩ := (show ∃ f : Nat → Int, (a1 = none → len1 = 0) ∧ SlF (fun b => b < W.heap.size) W a1 len1 f by
    obtain ⟨fuel, hf⟩ := h1
    exact ints_of hf)
  obtain ⟨a2, len2, cap2, rfl⟩ := okWide_slice Try.underlying23 (hval 2 23 v2 rfl rfl)
  have k2 := h2
  have lt2 : ∀ x ∈ p2, x.block < W.heap.size := by obtain ⟨m, hm⟩ := k2; exact DataW.trod_lt m _ _ _ hm
  obtain ⟨f2, z2, s2⟩ := (show ∃ f : Nat → Int, (a2 = none → len2 = 0) ∧ SlF (fun b => b < W.heap.size) W a2 len2 f by
    obtain ⟨fuel, hf⟩ := h2
    exact ints_of hf)
  obtain ⟨a3, len3, cap3, rfl⟩ := okWide_slice Try.underlying22 (hval 3 22 v3 rfl rfl)
  have k3 := h3
  have lt3 : ∀ x ∈ p3, x.block < W.heap.size := by obtain ⟨m, hm⟩ := k3; exact DataW.trod_lt m _ _ _ hm
  obtain ⟨A3, L3, C3, Z3, z3, y3, s3⟩ := (show ∃ (A : Nat → Option Addr) (L C : Nat → Nat) (Z : Nat → Nat → Int), (a3 = none → len3 = 0) ∧ (∀ r, r < len3 → A r = none → L r = 0) ∧ RowsF (fun b => b < W.heap.size) W a3 len3 A L C Z by
    obtain ⟨fuel, hf⟩ := h3
    exact rows_of hf)
  obtain ⟨a4, len4, cap4, rfl⟩ := okWide_slice Try.underlying22 (hval 4 22 v4 rfl rfl)
  have k4 := h4
  have lt4 : ∀ x ∈ p4, x.block < W.heap.size := by obtain ⟨m, hm⟩ := k4; exact DataW.trod_lt m _ _ _ hm
  obtain ⟨A4, L4, C4, Z4, z4, y4, s4⟩ := (show ∃ (A : Nat → Option Addr) (L C : Nat → Nat) (Z : Nat → Nat → Int), (a4 = none → len4 = 0) ∧ (∀ r, r < len4 → A r = none → L r = 0) ∧ RowsF (fun b => b < W.heap.size) W a4 len4 A L C Z by
    obtain ⟨fuel, hf⟩ := h4
    exact rows_of hf)
  obtain ⟨a5, len5, cap5, rfl⟩ := okWide_slice Try.underlying23 (hval 5 23 v5 rfl rfl)
  have k5 := h5
  have lt5 : ∀ x ∈ p5, x.block < W.heap.size := by obtain ⟨m, hm⟩ := k5; exact DataW.trod_lt m _ _ _ hm
  obtain ⟨f5, z5, s5⟩ := (show ∃ f : Nat → Int, (a5 = none → len5 = 0) ∧ SlF (fun b => b < W.heap.size) W a5 len5 f by
    obtain ⟨fuel, hf⟩ := h5
    exact ints_of hf)
  obtain ⟨a6, len6, cap6, rfl⟩ := okWide_slice Try.underlying23 (hval 6 23 v6 rfl rfl)
  have k6 := h6
  have lt6 : ∀ x ∈ p6, x.block < W.heap.size := by obtain ⟨m, hm⟩ := k6; exact DataW.trod_lt m _ _ _ hm
  obtain ⟨f6, z6, s6⟩ := (show ∃ f : Nat → Int, (a6 = none → len6 = 0) ∧ SlF (fun b => b < W.heap.size) W a6 len6 f by
    obtain ⟨fuel, hf⟩ := h6
    exact ints_of hf)
  obtain ⟨a7, rfl, rfl, rfl, w7⟩ := open_int Try.underlying3 (hval 7 3 v7 rfl rfl) h7
  obtain ⟨a8, rfl, rfl, rfl, w8⟩ := open_int Try.underlying5 (hval 8 5 v8 rfl rfl) h8
  clear hA0
  refine (law_any W a0 a1 a2 a3 a4 a5 a6 len0 len1 len2 len3 len4 len5 len6 cap0 cap1 cap2 cap3 cap4 cap5 cap6 A0 A3 A4 L0 L3 L4 C0 C3 C4 Z0 Z3 Z4 f1 f2 f5 f6 a7 a8 ⟨s0, s3, s4, s1, s2, s5, s6, z0, z1, z2, z3, z4, z5, z6, y0, y3, y4⟩ hpos).mono fun e W' ⟨he, bel⟩ => ?_
  subst he
  exact ⟨_, rfl, _, _, _, [], _, [], hW', trodAll_mk1 (shut_bool Try.underlying4 _), (trodAll_cons_mk (Below.trod laidOut (by kernel_rfl) (of_decide_eq_true (by kernel_rfl)) k0 bel lt0) (trodAll_cons_mk (Below.trod laidOut (by kernel_rfl) (of_decide_eq_true (by kernel_rfl)) k1 bel lt1) (trodAll_cons_mk (Below.trod laidOut (by kernel_rfl) (of_decide_eq_true (by kernel_rfl)) k2 bel lt2) (trodAll_cons_mk (Below.trod laidOut (by kernel_rfl) (of_decide_eq_true (by kernel_rfl)) k3 bel lt3) (trodAll_cons_mk (Below.trod laidOut (by kernel_rfl) (of_decide_eq_true (by kernel_rfl)) k4 bel lt4) (trodAll_cons_mk (Below.trod laidOut (by kernel_rfl) (of_decide_eq_true (by kernel_rfl)) k5 bel lt5) (trodAll_cons_mk (Below.trod laidOut (by kernel_rfl) (of_decide_eq_true (by kernel_rfl)) k6 bel lt6) (trodAll_cons_mk (shut_int Try.underlying3 w7) (trodAll_cons_mk (shut_int Try.underlying5 w8) trodAll_mk0))))))))), rfl, bel.frame _, fun h => by cases h⟩

theorem over : Rows.fnPathsTableJoinsExactlyTheConflictingRecentActionsRow.holds Try.pinned (OpenSpec.ofChange Rows.fnPathsTableJoinsExactlyTheConflictingRecentActionsSpec) :=
  OpenClaim.holds_of_wide 3 Try.f3 rfl rfl rfl rfl rfl rfl rfl ⟨rfl, rfl, rfl, rfl, rfl⟩ rfl rfl rfl rfl rfl (by kernel_rfl) Try.func3 (by kernel_rfl)
    (of_decide_eq_true (by kernel_rfl)) (by unfold Func.isWrapper; first | (rw [if_pos (by decide +kernel)]; kernel_rfl) | (rw [if_neg (by decide +kernel)]; exact ⟨rfl, rfl⟩))
    (fun os started H enc _ => lifted os started H enc)

/-- THE STATEMENT -/
theorem pathsTableJoins : Rows.FnPathsTableJoinsExactlyTheConflictingRecentActionsSaid := over
#print axioms pathsTableJoins
end Go.Proofs.Qxb6623442a
