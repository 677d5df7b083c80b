/- (*recent).follows. -/
import Derived.Test.Qxb6623442aJoin
import Derived.Deep.RegionLawGrows
import Derived.Deep.RegionHeld3
import Derived.Deep.DrawnRows
namespace Go.Proofs.Qxb6623442a
open Go.RowKit
set_option linter.unusedVariables false
attribute [local go_sem ↓] Go.wp_at_zero Go.wp_at_succ

/-- Any other kind: tx is put after the readers. -/
def FolRead (TB : Nat) (tx : Int) (nr : Nat) (R : Nat → Int) (w : World) (e : Ending) (w' : World) : Prop :=
  e = .returned (.tuple #[]) ∧ w.grownBy w' (some TB) ∧ (∀ o, o ≠ 5 → w'.cell? ⟨TB, o, none⟩ = w.cell? ⟨TB, o, none⟩) ∧
  ∃ g cap, w'.cell? ⟨TB, 5, none⟩ = some (.slice (some ⟨g, 0, none⟩) (nr + 1) cap) ∧ nr + 1 ≤ cap ∧ w.heap.size ≤ g ∧ SlF (fun b => w.heap.size ≤ b) w' (some ⟨g, 0, none⟩) (nr + 1) (fun i => if i < nr then R i else tx)

set_option maxHeartbeats 1000000 in
set_option maxRecDepth 100000 in
theorem follows_read (Fr : Nat → Prop) (TB : Nat) (tx kind : Int) (ra : Option Addr) (nr : Nat) (R : Nat → Int) (w : World) (hk : kind ≠ 2) (hnr : nr ≤ 1048576) (hnil : ra = none → nr = 0)
    (h5 : w.cell? ⟨TB, 5, none⟩ = some (.slice ra nr nr)) (hf5 : w.frozen? ⟨TB, 5, none⟩ = false) (hs : SlF Fr w ra nr R) :
    Calls Try.prog 13 #[.pointer (some ⟨TB, 4, none⟩), .int .i64 tx, .int .u8 kind] w (FolRead TB tx nr R w) := by
  have hk' : (kind == 2) = false := beq_eq_false_iff_ne.2 hk
  have hsl : SlF Fr (w.alloc (.cells #[.int .i64 tx] 3)) ra nr R := hs.fram ((Fram.refl _ _).alloc _)
  have hxc : (w.alloc (.cells #[.int .i64 tx] 3)).cell? ⟨w.heap.size, 0, none⟩ = some (.int .i64 tx) := by rw [World.cell?_alloc_new]; rfl
  go_enter Try.func13, Try.ntmps13
  go_wp2_with (at_builtin; refine append_tx _ rfl _ _ rfl ra nr nr R Fr rfl rfl hnil hsl w.heap.size tx rfl hxc hnr ?_)
  intro g cap w1 hcap hge hgl hold hnewc hgr
  have hG1 : w.grownBy w1 (some TB) := grown_trans (grown_alloc (grown_refl _ _) _) (grown_weak hgr)
  have hTlt : TB < w.heap.size := World.block_lt_of_cell? _ _ h5
  have hbk : w1.heap[TB]? = w.heap[TB]? := (hgr.block TB (by simp; omega) (by simp)).trans (Below.heap_alloc _ _ _ hTlt)
  have q1 : w1.cell? ⟨TB, 5, none⟩ = some (.slice ra nr nr) := by rw [World.cell?_of_block (w := w) hbk]; exact h5
  have q2 : w1.frozen? ⟨TB, 5, none⟩ = false := by rw [World.frozen?_of_block (w := w) hbk]; exact hf5
  have HS : Hid (FolRead TB tx nr R w (.returned (.tuple #[])) (w1.setCell ⟨TB, 5, none⟩ (.slice (some ⟨g, 0, none⟩) (nr + 1) cap))) := by
    refine ⟨rfl, grown_set hG1 _ _, fun o ho => ?_, g, cap, World.cell?_setCell_same _ _ _ q1, hcap, by omega, fun _ => ⟨g, 0, rfl, by omega, fun i hi => ?_⟩⟩
    · rw [World.cell?_setCell_other _ _ _ _ (fun e => ho (by have := congrArg Addr.off e; simpa using this.symm)), World.cell?_of_block (w := w) hbk]
    · rw [Nat.zero_add, World.cell?_setCell_other _ _ _ _ (fun e => by have := congrArg Addr.block e; simp at this; omega)]
      dsimp only
      by_cases hi2 : i < nr
      · rw [if_pos hi2]; exact hold i hi2
      · rw [if_neg hi2, show i = nr by omega]; exact hnewc
  clear hsl hxc hold hnewc hgr hG1 hbk h5 hs
  go_wp2
  go_end0
  exact HS.out

/-- A write: it alone is recent. -/
def FolWrite (TB : Nat) (tx : Int) (wa : Option Addr) (w : World) (e : Ending) (w' : World) : Prop :=
  e = .returned (.tuple #[]) ∧ Fram (fun k => k ≠ TB ∧ ∀ x, wa = some x → k ≠ x.block) w w' ∧ (∀ o, o ≠ 4 → o ≠ 5 → w'.cell? ⟨TB, o, none⟩ = w.cell? ⟨TB, o, none⟩) ∧
  ∃ g cap ra rc, w'.cell? ⟨TB, 4, none⟩ = some (.slice (some ⟨g, 0, none⟩) 1 cap) ∧ w'.cell? ⟨g, 0, none⟩ = some (.int .i64 tx) ∧ w'.cell? ⟨TB, 5, none⟩ = some (.slice ra 0 rc)

/-- The append at a step of a region that draws: there is room. -/
theorem step_room {ops : Array Oper} {o : Oper} {a : Act} {w : World} {K : Act → World → Prop} {Q : Exit → Act → World → Prop} {E : Prop} (hg : o.guard = none) (s x : Operand)
    (hop : o.op = Op.call { callee := Callee.builtin Builtin.append, args := #[s, x], argTypes := #[23, 23] }) (TW nw : Nat) (hs : a.eval s = .slice (some ⟨TW, 0, none⟩) 0 nw) (hnw : 0 < nw)
    (e : Nat) (tx : Int) (hx : a.eval x = .slice (some ⟨e, 0, none⟩) 1 1) (hxc : w.cell? ⟨e, 0, none⟩ = some (.int .i64 tx)) (u : Value) (hc : w.cell? ⟨TW, 0, none⟩ = some u) (hf : w.frozen? ⟨TW, 0, none⟩ = false)
    (hK : K (a.put o.dst (.slice (some ⟨TW, 0, none⟩) 1 nw)) (w.setCell ⟨TW, 0, none⟩ (.int .i64 tx))) :
    if Region.wanted o (yielded ops a.tmps) = true then Oper.wp Try.prog o a w K Q else E := by
  obtain ⟨i0, hi, hz0, hz1, hz2⟩ := info_parts Try.info3
  refine step_append_room hg s x 23 hop 3 i0 1 Try.underlying23 hi hz1 TW 0 0 nw hs ⟨e, 0, none⟩ 1 1 [.int .i64 tx] hx rfl (fun j u hj => ?_) (fun u hu => by simp at hu; subst hu; rfl) (by omega) (fun j hj => ?_) ?_
  · match j, hj with
    | 0, hj => simp at hj; subst hj; rw [Go.WideShapes.add_plain]; exact hxc
  · obtain rfl : j = 0 := by simp at hj; omega
    simp [hc, hf]
  · simpa [World.setCells] using hK

/-- The append at a step of a region that draws: there is none. -/
theorem step_grow {ops : Array Oper} {o : Oper} {a : Act} {w : World} {K : Act → World → Prop} {Q : Exit → Act → World → Prop} {E : Prop} (hg : o.guard = none) (s x : Operand)
    (hop : o.op = Op.call { callee := Callee.builtin Builtin.append, args := #[s, x], argTypes := #[23, 23] }) (ao : Option Addr) (hs : a.eval s = .slice ao 0 0)
    (e : Nat) (tx : Int) (hx : a.eval x = .slice (some ⟨e, 0, none⟩) 1 1) (hxc : w.cell? ⟨e, 0, none⟩ = some (.int .i64 tx))
    (hK : ∀ g cap w', w.heap.size ≤ g → g < w'.heap.size → w'.cell? ⟨g, 0, none⟩ = some (.int .i64 tx) → w.grownBy w' none → K (a.put o.dst (.slice (some ⟨g, 0, none⟩) 1 cap)) w') :
    if Region.wanted o (yielded ops a.tmps) = true then Oper.wp Try.prog o a w K Q else E := by
  obtain ⟨i0, hi, hz0, hz1, hz2⟩ := info_parts Try.info3
  refine step_append_grows hg s x 23 hop 3 i0 (.int .i64 0) 1 8 Try.underlying23 hi hz0 hz1 hz2 rfl (by decide) ao 0 0 [] hs (fun _ => ⟨rfl, rfl⟩) rfl (fun b hb j u hj => by simp at hj) ⟨e, 0, none⟩ 1 1 [.int .i64 tx] hx rfl (fun j u hj => ?_) (fun u hu => by simp at hu; subst hu; rfl) (by omega) (by decide) (by omega) (fun v' w' hown hgrow => ?_)
  · match j, hj with
    | 0, hj => simp at hj; subst hj; rw [Go.WideShapes.add_plain]; exact hxc
  · obtain ⟨g, cap, hv, hge, hlt⟩ := hown.form (by omega)
    subst hv
    refine hK g cap w' hge hlt ?_ hgrow
    rw [hown.cellAt 0 (by omega)]
    rfl

theorem FolWrite.room {TB TW : Nat} {tx : Int} {nw : Nat} {ra : Option Addr} {nr : Nat} {w : World} (hne : TW ≠ TB) (h4 : w.cell? ⟨TB, 4, none⟩ = some (.slice (some ⟨TW, 0, none⟩) nw nw)) (h5 : w.cell? ⟨TB, 5, none⟩ = some (.slice ra nr nr)) {u : Value} (hc : w.cell? ⟨TW, 0, none⟩ = some u) (o : Obj) :
    FolWrite TB tx (some ⟨TW, 0, none⟩) w (.returned (.tuple #[])) ((((w.setCell ⟨TW, 0, none⟩ (.int .i64 tx)).setCell ⟨TB, 4, none⟩ (.slice (some ⟨TW, 0, none⟩) 1 nw)).setCell ⟨TB, 5, none⟩ (.slice ra 0 nr)).alloc o).drew := by
  have hTB : TB < w.heap.size := World.block_lt_of_cell? _ _ h4
  have hTW : TW < w.heap.size := World.block_lt_of_cell? _ _ hc
  have hT1 : ∀ q (x : Value), (w.setCell ⟨TW, 0, none⟩ x).cell? ⟨TB, q, none⟩ = w.cell? ⟨TB, q, none⟩ := fun q x => World.cell?_setCell_other _ _ _ _ (fun e => hne (by have := congrArg Addr.block e; simpa using this))
  refine ⟨rfl, ((((Fram.refl _ _).setCell (fun h => (h.2 _ rfl) rfl) _).setCell (fun h => h.1 rfl) _).setCell (fun h => h.1 rfl) _).alloc _ |>.drew, fun o h4' h5' => ?_, TW, nw, ra, nr, ?_, ?_, ?_⟩
  · rw [World.cell?_drew, World.cell?_alloc_old _ _ _ (by simp; omega), World.cell?_setCell_other _ _ _ _ (fun e => h5' (by have := congrArg Addr.off e; simpa using this.symm)), World.cell?_setCell_other _ _ _ _ (fun e => h4' (by have := congrArg Addr.off e; simpa using this.symm)), hT1]
  · rw [World.cell?_drew, World.cell?_alloc_old _ _ _ (by simp; omega), World.cell?_setCell_other _ _ _ _ (by simp)]
    exact World.cell?_setCell_same _ _ _ (by rw [hT1]; exact h4)
  · rw [World.cell?_drew, World.cell?_alloc_old _ _ _ (by simp; omega), World.cell?_setCell_other _ _ _ _ (fun e => hne (by have := congrArg Addr.block e; simpa using this.symm)), World.cell?_setCell_other _ _ _ _ (fun e => hne (by have := congrArg Addr.block e; simpa using this.symm))]
    exact World.cell?_setCell_same _ _ _ hc
  · rw [World.cell?_drew, World.cell?_alloc_old _ _ _ (by simp; omega)]
    exact World.cell?_setCell_same _ _ _ (by rw [World.cell?_setCell_other _ _ _ _ (by simp), hT1]; exact h5)

set_option maxHeartbeats 2000000 in
set_option maxRecDepth 100000 in
theorem follows_write_room (TB TW : Nat) (tx : Int) (nw : Nat) (ra : Option Addr) (nr : Nat) (w : World) (hne : TW ≠ TB) (hnw : 0 < nw)
    (h4 : w.cell? ⟨TB, 4, none⟩ = some (.slice (some ⟨TW, 0, none⟩) nw nw)) (h5 : w.cell? ⟨TB, 5, none⟩ = some (.slice ra nr nr)) (hf4 : w.frozen? ⟨TB, 4, none⟩ = false) (hf5 : w.frozen? ⟨TB, 5, none⟩ = false)
    (u : Value) (hc : w.cell? ⟨TW, 0, none⟩ = some u) (hfc : w.frozen? ⟨TW, 0, none⟩ = false) :
    Calls Try.prog 13 #[.pointer (some ⟨TB, 4, none⟩), .int .i64 tx, .int .u8 2] w (FolWrite TB tx (some ⟨TW, 0, none⟩) w) := by
  have hnwz : (0 : Int) < (nw : Int) := by omega
  have hTB : TB < w.heap.size := World.block_lt_of_cell? _ _ h4
  have hTW : TW < w.heap.size := World.block_lt_of_cell? _ _ hc
  have hxc : (w.alloc (.cells #[.int .i64 tx] 3)).drew.cell? ⟨w.heap.size, 0, none⟩ = some (.int .i64 tx) := by rw [World.cell?_drew, World.cell?_alloc_new]; rfl
  have hc1 : (w.alloc (.cells #[.int .i64 tx] 3)).drew.cell? ⟨TW, 0, none⟩ = some u := by rw [World.cell?_drew, World.cell?_alloc_old _ _ _ (by show TW ≠ w.heap.size; omega)]; exact hc
  have hf1 : (w.alloc (.cells #[.int .i64 tx] 3)).drew.frozen? ⟨TW, 0, none⟩ = false := by rw [World.frozen?_drew, World.frozen?_alloc_old _ _ _ (by show TW ≠ w.heap.size; omega)]; exact hfc
  go_enter Try.func13, Try.ntmps13
  go_wp2_with fail
  go_region_law ((refine step_room (by rfl) _ _ (by rfl) TW nw (by rfl) hnw w.heap.size tx (by rfl) hxc u hc1 hf1 ?_))
  all_goals go_wp2
  all_goals go_end0
  all_goals exact FolWrite.room hne h4 h5 hc _

theorem FolWrite.grow {TB : Nat} {tx : Int} {wa ra : Option Addr} {nr g cap : Nat} {w w1 : World} (h4 : w.cell? ⟨TB, 4, none⟩ = some (.slice wa 0 0)) (h5 : w.cell? ⟨TB, 5, none⟩ = some (.slice ra nr nr)) (o : Obj)
    (hge : w.heap.size < g) (hgl : g < w1.heap.size) (hnew : w1.cell? ⟨g, 0, none⟩ = some (.int .i64 tx)) (hgr : (w.alloc o).drew.grownBy w1 none) :
    FolWrite TB tx wa w (.returned (.tuple #[])) ((w1.setCell ⟨TB, 4, none⟩ (.slice (some ⟨g, 0, none⟩) 1 cap)).setCell ⟨TB, 5, none⟩ (.slice ra 0 nr)) := by
  have hTB : TB < w.heap.size := World.block_lt_of_cell? _ _ h4
  have hbk : w1.heap[TB]? = w.heap[TB]? := (hgr.block TB (by simp; omega) (by simp)).trans (Below.heap_alloc _ _ _ hTB)
  have hT1 : ∀ q, w1.cell? ⟨TB, q, none⟩ = w.cell? ⟨TB, q, none⟩ := fun q => World.cell?_of_block (w := w) hbk
  have hF : Fram (fun k => k ≠ TB ∧ ∀ x, wa = some x → k ≠ x.block) w w1 := ((Fram.refl _ _).alloc o).drew.grown hgr (fun k hk => by cases hk)
  refine ⟨rfl, (hF.setCell (fun h => h.1 rfl) _).setCell (fun h => h.1 rfl) _, fun o h4' h5' => ?_, g, cap, ra, nr, ?_, ?_, ?_⟩
  · rw [World.cell?_setCell_other _ _ _ _ (fun e => h5' (by have := congrArg Addr.off e; simpa using this.symm)), World.cell?_setCell_other _ _ _ _ (fun e => h4' (by have := congrArg Addr.off e; simpa using this.symm)), hT1]
  · rw [World.cell?_setCell_other _ _ _ _ (by simp)]
    exact World.cell?_setCell_same _ _ _ (by rw [hT1]; exact h4)
  · rw [World.cell?_setCell_other _ _ _ _ (fun e => by have := congrArg Addr.block e; simp at this; omega), World.cell?_setCell_other _ _ _ _ (fun e => by have := congrArg Addr.block e; simp at this; omega)]
    exact hnew
  · exact World.cell?_setCell_same _ _ _ (by rw [World.cell?_setCell_other _ _ _ _ (by simp), hT1]; exact h5)

set_option maxHeartbeats 2000000 in
set_option maxRecDepth 100000 in
theorem follows_write_grow (TB : Nat) (tx : Int) (wa ra : Option Addr) (nr : Nat) (w : World)
    (h4 : w.cell? ⟨TB, 4, none⟩ = some (.slice wa 0 0)) (h5 : w.cell? ⟨TB, 5, none⟩ = some (.slice ra nr nr)) (hf4 : w.frozen? ⟨TB, 4, none⟩ = false) (hf5 : w.frozen? ⟨TB, 5, none⟩ = false) :
    Calls Try.prog 13 #[.pointer (some ⟨TB, 4, none⟩), .int .i64 tx, .int .u8 2] w (FolWrite TB tx wa w) := by
  have hTB : TB < w.heap.size := World.block_lt_of_cell? _ _ h4
  have hxc : (w.alloc (.cells #[.int .i64 tx] 3)).drew.cell? ⟨w.heap.size, 0, none⟩ = some (.int .i64 tx) := by rw [World.cell?_drew, World.cell?_alloc_new]; rfl
  have HB : Hid (∀ w1, (w.alloc (.cells #[.int .i64 tx] 3)).drew.grownBy w1 none → w1.heap[TB]? = w.heap[TB]?) := fun w1 hgr => (hgr.block TB (by simp; omega) (by simp)).trans (Below.heap_alloc _ _ _ hTB)
  go_enter Try.func13, Try.ntmps13
  go_wp2_with fail
  go_region_law ((refine step_grow (by rfl) _ _ (by rfl) wa (by rfl) w.heap.size tx (by rfl) hxc ?_; intro g cap w1 hge hgl hnew hgr; have q4 : w1.cell? ⟨TB, 4, none⟩ = some (.slice wa 0 0) := (World.cell?_of_block (w := w) (HB.out w1 hgr)).trans h4; have q5 : w1.cell? ⟨TB, 5, none⟩ = some (.slice ra nr nr) := (World.cell?_of_block (w := w) (HB.out w1 hgr)).trans h5; have r4 : w1.frozen? ⟨TB, 4, none⟩ = false := (World.frozen?_of_block (w := w) (HB.out w1 hgr)).trans hf4; have r5 : w1.frozen? ⟨TB, 5, none⟩ = false := (World.frozen?_of_block (w := w) (HB.out w1 hgr)).trans hf5))
  all_goals go_wp2
  all_goals go_end0
  all_goals exact FolWrite.grow h4 h5 _ (by first | omega | (simp at hge; omega)) hgl hnew hgr

/-- The writers' own row: nil; or a row of the call's own, its capacity its length. -/
theorem follows_write (TB : Nat) (tx : Int) (wa : Option Addr) (nw : Nat) (W : Nat → Int) (ra : Option Addr) (nr : Nat) (w : World)
    (hw : (wa = none ∧ nw = 0) ∨ ∃ TW, wa = some ⟨TW, 0, none⟩ ∧ TW ≠ TB ∧ w.rowIs TW 3 nw (fun i => .int .i64 (W i)))
    (h4 : w.cell? ⟨TB, 4, none⟩ = some (.slice wa nw nw)) (h5 : w.cell? ⟨TB, 5, none⟩ = some (.slice ra nr nr)) (hf4 : w.frozen? ⟨TB, 4, none⟩ = false) (hf5 : w.frozen? ⟨TB, 5, none⟩ = false) :
    Calls Try.prog 13 #[.pointer (some ⟨TB, 4, none⟩), .int .i64 tx, .int .u8 2] w (FolWrite TB tx wa w) := by
  by_cases h0 : nw = 0
  · subst h0
    exact follows_write_grow TB tx wa ra nr w h4 h5 hf4 hf5
  · rcases hw with ⟨_, h⟩ | ⟨TW, rfl, hne, hrow⟩
    · exact absurd h h0
    · exact follows_write_room TB TW tx nw ra nr w hne (by omega) h4 h5 hf4 hf5 _ (hrow.cell (i := 0) (by omega)) (hrow.frozen 0)
end Go.Proofs.Qxb6623442a
