/- FnUnindexMatchesClearAndReinsert: the walk. -/
import Derived.Test.Qxb6623513aReins
import Derived.Test.Qxb6623513aCopy
namespace Go.Proofs.Qxb6623513a
open Go.RowKit
set_option linter.unusedVariables false

/-- The keys that came in, at p. -/
def KeysP (w : World) (p : Addr) (nk : Nat) (K0 K1 : Nat → Int) : Prop :=
  0 < nk → ∃ kb ko, p = ⟨kb, ko, none⟩ ∧ kb < w.heap.size ∧ ∀ i, i < nk → w.cell? ⟨kb, ko + i * 2, none⟩ = some (.int .u64 (K0 i)) ∧ w.cell? ⟨kb, ko + i * 2 + 1, none⟩ = some (.int .u64 (K1 i))
def LawPost (w : World) (e : Ending) (w' : World) : Prop := e = .returned (.bool true) ∧ Below w.heap.size w w'
theorem LawPost.here (w : World) : LawPost w (.returned (.bool true)) w := ⟨rfl, Below.refl _ _⟩
theorem below_drewN {B : Nat} {a w : World} (h : Below B a w) (q : Nat) : Below B a (w.drewN q) := ⟨h.os, h.tape, h.output, h.size, h.block⟩
theorem KeysF.below {B : Nat} {w w' : World} {ka : Option Addr} {nk : Nat} {K0 K1 : Nat → Int} (h : KeysF w ka nk K0 K1) (hb : Below B w w') (hl : ∀ p, ka = some p → p.block < B) : KeysF w' ka nk K0 K1 := fun hn => by
  obtain ⟨b, off, rfl, hc⟩ := h hn
  have := hl _ rfl
  exact ⟨b, off, rfl, fun i hi => by rw [hb.cell (p := ⟨b, off + i * 2, none⟩) this, hb.cell (p := ⟨b, off + i * 2 + 1, none⟩) this]; exact hc i hi⟩
theorem KeysF.rst {T B : Nat} {w w' : World} {ka : Option Addr} {nk : Nat} {K0 K1 : Nat → Int} (h : KeysF w ka nk K0 K1) (hb : Rst T B w w') (hl : ∀ p, ka = some p → p.block < B ∧ p.block ≠ T) : KeysF w' ka nk K0 K1 := fun hn => by
  obtain ⟨b, off, rfl, hc⟩ := h hn
  have := hl _ rfl
  have e : ∀ q, w'.cell? ⟨b, q, none⟩ = w.cell? ⟨b, q, none⟩ := fun q => World.cell?_of_block (w := w) (hb.rest b this.1 this.2)
  exact ⟨b, off, rfl, fun i hi => by rw [e, e]; exact hc i hi⟩
theorem Prs.keys {w : World} {b nk : Nat} {K0 K1 : Nat → Int} (h : Prs 2 w b 31 nk K0 K1) : KeysF w (some ⟨b, 0, none⟩) nk K0 K1 := fun _ => ⟨b, 0, rfl, fun i hi => by rw [Nat.zero_add]; exact ⟨h.c0 (.inl rfl) hi, h.c1 (.inl rfl) hi⟩⟩
theorem Row.idx {w : World} {b n : Nat} {f : Nat → Int} (h : Row w b n f) : IdxF w b 0 n f := fun i hi => by rw [Nat.zero_add]; exact h.cell hi

set_option maxHeartbeats 1000000 in
set_option maxRecDepth 100000 in
theorem law3_big (ka ia : Option Addr) (nk kc N c : Nat) (cell : Int) (w : World) (hbig : 65536 < nk ∨ (nk ≤ 65536 ∧ 4096 < N) ∨ (nk ≤ 65536 ∧ N ≤ 4096 ∧ 1048576 < nk * 16 + N * 4)) :
    Calls Try.prog 3 #[.slice ka nk kc, .slice ia N c, .int .i64 cell] w (LawPost w) := by
  rcases hbig with h | h | h
  all_goals
    go_enter Try.func3, Try.ntmps3
    go_wp2_with fail
    refine (bytes5_any _ _ _ _ _ _ _ _).mono ?_
    rintro e w' ⟨bo, rfl, rfl⟩
    cases bo
    · go_wp2_with fail
      go_ret
      exact LawPost.here _
    · go_wp2_with fail
      go_ret
      exact LawPost.here _

set_option maxHeartbeats 1000000 in
set_option maxRecDepth 100000 in
theorem law3_bad (ka ia : Option Addr) (nk kc N c : Nat) (cell : Int) (w : World) (hnk : nk ≤ 65536) (hN : N ≤ 4096) (hsum : nk * 16 + N * 4 ≤ 1048576) (hbad : N = 0 ∨ bits .and .i64 (N : Int) ((N : Int) - 1) ≠ 0) :
    Calls Try.prog 3 #[.slice ka nk kc, .slice ia N c, .int .i64 cell] w (LawPost w) := by
  have HD := hid (dom_bad ka nk kc ia N c cell w hN hbad)
  clear hbad
  go_enter Try.func3, Try.ntmps3
  go_wp2_with fail
  refine (bytes5_any _ _ _ _ _ _ _ _).mono ?_
  rintro e w' ⟨bo, rfl, hw⟩
  have hw' := hw.symm
  subst hw'
  clear hw
  cases bo
  · go_wp2_with fail
    go_ret
    exact LawPost.here _
  · go_wp2_with fail
    refine HD.out.mono ?_
    rintro e w2 ⟨rfl, hw2⟩
    have hw2' := hw2.symm
    subst hw2'
    clear hw2
    go_wp2_with fail
    go_ret
    exact LawPost.here _

set_option maxHeartbeats 1000000 in
set_option maxRecDepth 100000 in
theorem law4_big (ka ia : Option Addr) (nk kc N c : Nat) (cell : Int) (w : World) (hbig : 65536 < nk ∨ (nk ≤ 65536 ∧ 4096 < N) ∨ (nk ≤ 65536 ∧ N ≤ 4096 ∧ 1048576 < nk * 16 + N * 4)) :
    Calls Try.prog 4 #[.slice ka nk kc, .slice ia N c, .int .i64 cell] w (LawPost w) := by
  rcases hbig with h | h | h
  all_goals
    go_enter Try.func4, Try.ntmps4
    go_wp2_with fail
    refine (bytes10_any _ _ _ _ _ _ _ _).mono ?_
    rintro e w' ⟨bo, rfl, rfl⟩
    cases bo
    · go_wp2_with fail
      go_ret
      exact LawPost.here _
    · go_wp2_with fail
      go_ret
      exact LawPost.here _

set_option maxHeartbeats 1000000 in
set_option maxRecDepth 100000 in
theorem law4_bad (ka ia : Option Addr) (nk kc N c : Nat) (cell : Int) (w : World) (hnk : nk ≤ 65536) (hN : N ≤ 4096) (hsum : nk * 16 + N * 4 ≤ 1048576) (hbad : N = 0 ∨ bits .and .i64 (N : Int) ((N : Int) - 1) ≠ 0) :
    Calls Try.prog 4 #[.slice ka nk kc, .slice ia N c, .int .i64 cell] w (LawPost w) := by
  have HD := hid (dom_bad ka nk kc ia N c cell w hN hbad)
  clear hbad
  go_enter Try.func4, Try.ntmps4
  go_wp2_with fail
  refine (bytes10_any _ _ _ _ _ _ _ _).mono ?_
  rintro e w' ⟨bo, rfl, hw⟩
  have hw' := hw.symm
  subst hw'
  clear hw
  cases bo
  · go_wp2_with fail
    go_ret
    exact LawPost.here _
  · go_wp2_with fail
    refine HD.out.mono ?_
    rintro e w2 ⟨rfl, hw2⟩
    have hw2' := hw2.symm
    subst hw2'
    clear hw2
    go_wp2_with fail
    go_ret
    exact LawPost.here _
end Go.Proofs.Qxb6623513a
