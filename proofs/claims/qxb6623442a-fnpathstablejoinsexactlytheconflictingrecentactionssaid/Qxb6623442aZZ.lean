/- ZZTable. -/
import Derived.Test.Qxb6623442aTableW
namespace Go.Proofs.Qxb6623442a
open Go.RowKit
set_option linter.unusedVariables false
attribute [local go_sem ↓] Go.wp_at_zero Go.wp_at_succ

theorem hid {p : Prop} (h : p) : Hid p := h

/-- What 'table' leaves, whatever the kind. -/
structure TOut (wrt : Bool) (w w' : World) (PB n : Nat) (tx : Int) (L : Nat → Nat) (Z : Nat → Nat → Int) (src : Nat → Bool) (KB nk : Nat) (wa : Option Addr) (nw nr : Nat) (R : Nat → Int) (WA RA : Nat → Option Addr) (LW CW LR : Nat → Nat) (SC : Nat → Int) (MT : Nat → Nat) (vtw vtr : Value) : Prop where
  hps : PSt (FrT n PB KB nk wa) w' PB n tx L Z src
  hfr : Fram (FrT n PB KB nk wa) w w'
  hel : ∀ j, j < nk → KEl w' (KB + 1 + j) (WA j) (LW j) (CW j) (RA j) (LR j) (LR j) (if wrt = true then 0 else SC j) (if wrt = true then (LR j : Int) else MT j)
  h4 : w'.cell? ⟨KB + 1 + nk, 4, none⟩ = some vtw
  h5 : w'.cell? ⟨KB + 1 + nk, 5, none⟩ = some vtr
  hw : wrt = true → ∃ g cap ra rc, vtw = .slice (some ⟨g, 0, none⟩) 1 cap ∧ w'.cell? ⟨g, 0, none⟩ = some (.int .i64 tx) ∧ vtr = .slice ra 0 rc
  hr : wrt = false → vtw = .slice wa nw nw ∧ (∀ x, wa = some x → w'.heap[x.block]? = w.heap[x.block]?) ∧ ∃ g cap, vtr = .slice (some ⟨g, 0, none⟩) (nr + 1) cap ∧ nr + 1 ≤ cap ∧ SlF (FrT n PB KB nk wa) w' (some ⟨g, 0, none⟩) (nr + 1) (fun i => if i < nr then R i else tx)

def src0 (wrt : Bool) (src : Nat → Bool) (W R : Nat → Int) (nw nr : Nat) : Nat → Bool := if wrt then ors (ors src W nw) R nr else ors src W nw

theorem table_any (w : World) (pa : Option Addr) (PB n pc : Nat) (tx kind : Int) (L : Nat → Nat) (Z : Nat → Nat → Int) (src : Nat → Bool) (KB nk : Nat) (ka : Option Addr) (kc : Nat) (wa : Option Addr) (nw : Nat) (W : Nat → Int) (ra : Option Addr) (nr : Nat) (R : Nat → Int)
    (WA RA : Nat → Option Addr) (LW CW LR : Nat → Nat) (KW KR : Nat → Nat → Int) (SC : Nat → Int) (MT : Nat → Nat)
    (h : TIn w pa PB n tx L Z src KB nk ka kc wa nw W ra nr R WA RA LW CW LR KW KR SC MT) (d : TDom n L nk nw nr W R LW LR KW KR MT) :
    Calls Try.prog 11 #[.slice pa n pc, .pointer (some ⟨KB + 1 + nk, 0, none⟩), .int .i64 tx, .int .u8 kind] w fun e w' => e = .returned (.tuple #[]) ∧ ∃ vtw vtr, TOut (kind == 2) w w' PB n tx L Z (srcK (kind == 2) KW KR LW LR MT (src0 (kind == 2) src W R nw nr) nk) KB nk wa nw nr R WA RA LW CW LR SC MT vtw vtr := by
  by_cases hk : kind = 2
  · subst hk
    refine (table_write w pa PB n pc tx L Z src KB nk ka kc wa nw W ra nr R WA RA LW CW LR KW KR SC MT h d).mono ?_
    rintro e w' ⟨he, ho⟩
    obtain ⟨g, cap, ra', rc, a, b, c⟩ := ho.ht
    exact ⟨he, _, _, ho.hps, ho.hfr, ho.hel, a, c, fun _ => ⟨g, cap, ra', rc, rfl, b, rfl⟩, (fun x => by cases x)⟩
  · have hk' : (kind == 2) = false := beq_eq_false_iff_ne.2 hk
    rw [hk']
    refine (table_read w pa PB n pc tx kind L Z src KB nk ka kc wa nw W ra nr R WA RA LW CW LR KW KR SC MT hk h d).mono ?_
    rintro e w' ⟨he, ho⟩
    obtain ⟨g, cap, a, cp, b⟩ := ho.ht5
    exact ⟨he, _, _, ho.hps, ho.hfr, ho.hel, ho.ht4, a, (fun x => by cases x), fun _ => ⟨rfl, ho.htw, g, cap, rfl, cp, b⟩⟩

/-- What ZZTable is handed: blocks below KB (the heap's size at the call). -/
def Fr0 (n PB KB : Nat) (wa : Option Addr) : Nat → Prop := fun b => b < KB ∧ (0 < n → b ≠ PB) ∧ ∀ x, wa = some x → b ≠ x.block
theorem Fr0.toT {n PB KB nk : Nat} {wa : Option Addr} {b : Nat} (h : Fr0 n PB KB wa b) : FrT n PB KB nk wa b := ⟨h.2.1, h.2.2, .inl (Nat.le_of_lt h.1)⟩

structure ZIn (w : World) (pa : Option Addr) (PB n : Nat) (tx : Int) (L : Nat → Nat) (Z : Nat → Nat → Int) (nk : Nat) (kwa kra ma sa : Option Addr) (wa : Option Addr) (nw : Nat) (W : Nat → Int) (ra : Option Addr) (nr : Nat) (R : Nat → Int)
    (WA RA : Nat → Option Addr) (LW CW LR : Nat → Nat) (KW KR : Nat → Nat → Int) (SC : Nat → Int) (MT : Nat → Nat) : Prop where
  hpa : 0 < n → pa = some ⟨PB, 0, none⟩
  hpb : PB < w.heap.size
  hps : PSt (Fr0 n PB w.heap.size wa) w PB n tx L Z (fun _ => false)
  htw : (wa = none ∧ nw = 0) ∨ ∃ TW, wa = some ⟨TW, 0, none⟩ ∧ TW < w.heap.size ∧ TW ≠ PB ∧ w.rowIs TW 3 nw (fun i => .int .i64 (W i))
  hrn : ra = none → nr = 0
  hrs : SlF (Fr0 n PB w.heap.size wa) w ra nr R
  hkw : RowsF (Fr0 n PB w.heap.size wa) w kwa nk WA LW CW KW
  hkr : RowsF (Fr0 n PB w.heap.size wa) w kra nk RA LR LR KR
  hmt : SlF (Fr0 n PB w.heap.size wa) w ma nk (fun i => (MT i : Int))
  hsc : SlF (Fr0 n PB w.heap.size wa) w sa nk SC

theorem Try.info35 : (Try.prog.info? 35).map (fun i => (i.zero, i.size, i.bytes)) = some (some (.pointer none), 1, 8) := by kernel_rfl

/-- At the head of the loop that lays the elements. -/
structure ZL1 (w wr : World) (nk : Nat) (WA RA : Nat → Option Addr) (LW CW LR : Nat → Nat) (SC : Nat → Int) (MT : Nat → Nat) (i : Nat) : Prop where
  bel : Below w.heap.size w wr
  size : wr.heap.size = w.heap.size + 1 + i
  keys : wr.rowIs w.heap.size 35 nk (fun j => if j < i then .pointer (some ⟨w.heap.size + 1 + j, 0, none⟩) else .pointer none)
  el : ∀ j, j < i → KEl wr (w.heap.size + 1 + j) (WA j) (LW j) (CW j) (RA j) (LR j) (LR j) (SC j) (MT j)

theorem KEl.made (w : World) (wa : Option Addr) (lw cw : Nat) (ra : Option Addr) (lr cr : Nat) (sc met : Int) :
    KEl (w.alloc (.cells #[.slice none 0 0, .slice none 0 0, .map none, .pointer none, .slice wa lw cw, .slice ra lr cr, .slice none 0 0, .int .i64 sc, .int .i64 met] 41)) w.heap.size wa lw cw ra lr cr sc met :=
  ⟨by rw [World.cell?_alloc_new]; rfl, by rw [World.cell?_alloc_new]; rfl, by rw [World.cell?_alloc_new]; rfl, by rw [World.cell?_alloc_new]; rfl, World.frozen?_alloc_new .., World.frozen?_alloc_new ..⟩

theorem ZL1.step {w wr : World} {nk : Nat} {WA RA : Nat → Option Addr} {LW CW LR : Nat → Nat} {SC : Nat → Int} {MT : Nat → Nat} {i : Nat} (h : ZL1 w wr nk WA RA LW CW LR SC MT i) :
    ZL1 w ((wr.alloc (.cells #[.slice none 0 0, .slice none 0 0, .map none, .pointer none, .slice (WA i) (LW i) (CW i), .slice (RA i) (LR i) (LR i), .slice none 0 0, .int .i64 (SC i), .int .i64 (MT i : Int)] 41)).setCell ⟨w.heap.size, i, none⟩ (.pointer (some ⟨w.heap.size + 1 + i, 0, none⟩))).drew nk WA RA LW CW LR SC MT (i + 1) := by
  have hs := h.size
  refine ⟨((h.bel.alloc (by omega) _).setCell (Nat.le_refl _) _).drew, by simp [hs]; omega, (((h.keys.alloc _).set i _).congr (fun j _ => ?_)).drew, fun j hj => ?_⟩
  · by_cases e : j = i
    · subst e; simp
    · by_cases e2 : j < i
      · simp [e, e2, show j < i + 1 by omega]
      · simp [e, e2, show ¬ j < i + 1 by omega]
  · have hb : ∀ (W : World) (v : Value), ((W.setCell ⟨w.heap.size, i, none⟩ v).drew).heap[w.heap.size + 1 + j]? = W.heap[w.heap.size + 1 + j]? := fun W v => Below.heap_setCell W _ v _ (by show w.heap.size + 1 + j ≠ w.heap.size; omega)
    by_cases e : j = i
    · subst e
      have := KEl.made wr (WA j) (LW j) (CW j) (RA j) (LR j) (LR j) (SC j) (MT j)
      rw [hs] at this
      exact this.block (hb _ _)
    · exact ((h.el j (by omega)).block (Below.heap_alloc _ _ _ (by omega))).block (hb _ _)

/-- The table's element at its block. -/
theorem t_cells (w : World) (B : Nat) (hB : B = w.heap.size) (wa : Option Addr) (nw : Nat) (ra : Option Addr) (nr : Nat) (ka : Option Addr) (nk kc : Nat) :
    let W := w.alloc (.cells #[.slice none 0 0, .slice none 0 0, .map none, .pointer none, .slice wa nw nw, .slice ra nr nr, .slice ka nk kc, .int .i64 0, .int .i64 0] 41)
    W.cell? ⟨B, 4, none⟩ = some (.slice wa nw nw) ∧ W.cell? ⟨B, 5, none⟩ = some (.slice ra nr nr) ∧ W.cell? ⟨B, 6, none⟩ = some (.slice ka nk kc) ∧ W.frozen? ⟨B, 4, none⟩ = false ∧ W.frozen? ⟨B, 5, none⟩ = false := by
  subst hB
  exact ⟨by rw [World.cell?_alloc_new]; rfl, by rw [World.cell?_alloc_new]; rfl, by rw [World.cell?_alloc_new]; rfl, World.frozen?_alloc_new .., World.frozen?_alloc_new ..⟩

/-- The call of 'table' is made as its contract wants it. -/
theorem ZL1.tin {w wr : World} {pa : Option Addr} {PB n : Nat} {tx : Int} {L : Nat → Nat} {Z : Nat → Nat → Int} {nk : Nat} {kwa kra ma sa : Option Addr} {wa : Option Addr} {nw : Nat} {W : Nat → Int} {ra : Option Addr} {nr : Nat} {R : Nat → Int}
    {WA RA : Nat → Option Addr} {LW CW LR : Nat → Nat} {KW KR : Nat → Nat → Int} {SC : Nat → Int} {MT : Nat → Nat} (hL : ZL1 w wr nk WA RA LW CW LR SC MT nk)
    (h : ZIn w pa PB n tx L Z nk kwa kra ma sa wa nw W ra nr R WA RA LW CW LR KW KR SC MT) :
    TIn (wr.alloc (.cells #[.slice none 0 0, .slice none 0 0, .map none, .pointer none, .slice wa nw nw, .slice ra nr nr, .slice (some ⟨w.heap.size, 0, none⟩) nk nk, .int .i64 0, .int .i64 0] 41)) pa PB n tx L Z (fun _ => false) w.heap.size nk (some ⟨w.heap.size, 0, none⟩) nk wa nw W ra nr R WA RA LW CW LR KW KR SC MT := by
  have hs := hL.size
  obtain ⟨t4, t5, t6, f4, f5⟩ := t_cells wr (w.heap.size + 1 + nk) hs.symm wa nw ra nr (some ⟨w.heap.size, 0, none⟩) nk nk
  have hB := hL.bel.alloc (w := wr) (by omega) (.cells #[.slice none 0 0, .slice none 0 0, .map none, .pointer none, .slice wa nw nw, .slice ra nr nr, .slice (some ⟨w.heap.size, 0, none⟩) nk nk, .int .i64 0, .int .i64 0] 41)
  have hF : Fram (Fr0 n PB w.heap.size wa) w (wr.alloc (.cells #[.slice none 0 0, .slice none 0 0, .map none, .pointer none, .slice wa nw nw, .slice ra nr nr, .slice (some ⟨w.heap.size, 0, none⟩) nk nk, .int .i64 0, .int .i64 0] 41)) := Fram.of_below hB (fun k hk x => x.1)
  have wk : ∀ {W : World}, ∀ k, k < W.heap.size → Fr0 n PB w.heap.size wa k → FrT n PB w.heap.size nk wa k := fun k _ x => x.toT
  refine ⟨h.hpa, h.hpb, by simp [hs], (h.hps.fram hF (hB.block PB h.hpb)).weak wk, fun _ => rfl, t4, t5, t6, f4, f5, ?_, h.hrn, (h.hrs.fram hF).weak wk, fun i hi => ?_, fun i hi => ?_, fun i hi => ((h.hkw.row hi).fram hF).weak wk, fun i hi => ((h.hkr.row hi).fram hF).weak wk⟩
  · rcases h.htw with x | ⟨TW, e1, e2, e3, e4⟩
    · exact .inl x
    · exact .inr ⟨TW, e1, e2, e3, e4.of_block (hB.block TW e2)⟩
  · have := (hL.keys.alloc (.cells #[.slice none 0 0, .slice none 0 0, .map none, .pointer none, .slice wa nw nw, .slice ra nr nr, .slice (some ⟨w.heap.size, 0, none⟩) nk nk, .int .i64 0, .int .i64 0] 41)).cell hi
    rw [if_pos hi] at this
    exact this
  · exact (hL.el i hi).block (Below.heap_alloc _ _ _ (by omega))

/-- What ZZTable leaves. -/
structure ZOut (wrt : Bool) (w w' : World) (PB n : Nat) (tx : Int) (L : Nat → Nat) (Z : Nat → Nat → Int) (src : Nat → Bool) (nk : Nat) (wa : Option Addr) (nw nr : Nat) (R : Nat → Int) (WA RA : Nat → Option Addr) (LW CW LR : Nat → Nat) (SC : Nat → Int) (MT : Nat → Nat) (vtw vtr : Value) (M : Nat) : Prop where
  hps : PSt (fun b => b < M) w' PB n tx L Z src
  hfr : Fram (Fr0 n PB w.heap.size wa) w w'
  hM : w.heap.size < M
  hsz : w'.heap.size = M + 4
  hw : wrt = true → ∃ g cap ra rc, vtw = .slice (some ⟨g, 0, none⟩) 1 cap ∧ w'.cell? ⟨g, 0, none⟩ = some (.int .i64 tx) ∧ vtr = .slice ra 0 rc
  hr : wrt = false → vtw = .slice wa nw nw ∧ (∀ x, wa = some x → w'.heap[x.block]? = w.heap[x.block]?) ∧ ∃ g cap, vtr = .slice (some ⟨g, 0, none⟩) (nr + 1) cap ∧ nr + 1 ≤ cap ∧ SlF (fun b => b < M) w' (some ⟨g, 0, none⟩) (nr + 1) (fun i => if i < nr then R i else tx)
  r0 : w'.rowIs M 3 nk (fun j => .int .i64 (if wrt = true then (LR j : Int) else MT j))
  r1 : w'.rowIs (M + 1) 3 nk (fun j => .int .i64 (if wrt = true then 0 else SC j))
  r2 : w'.rowIs (M + 2) 23 nk (fun j => .slice (WA j) (LW j) (CW j))
  r3 : w'.rowIs (M + 3) 23 nk (fun j => .slice (RA j) (LR j) (LR j))

/-- At the head of the loop that reads the elements back. -/
structure ZL2 (w3 wx : World) (nk M : Nat) (m0 m1 : Nat → Int) (v2 v3 : Nat → Value) (k : Nat) : Prop where
  bel : Below M w3 wx
  size : wx.heap.size = M + 4
  r0 : wx.rowIs M 3 nk (fun j => .int .i64 (if j < k then m0 j else 0))
  r1 : wx.rowIs (M + 1) 3 nk (fun j => .int .i64 (if j < k then m1 j else 0))
  r2 : wx.rowIs (M + 2) 23 nk (fun j => if j < k then v2 j else .slice none 0 0)
  r3 : wx.rowIs (M + 3) 23 nk (fun j => if j < k then v3 j else .slice none 0 0)

theorem ZL2.start (w3 : World) (nk M : Nat) (hM : w3.heap.size = M) (m0 m1 : Nat → Int) (v2 v3 : Nat → Value) :
    ZL2 w3 ((((w3.alloc (.cells (madeCells #[.int .i64 0] nk) 3)).alloc (.cells (madeCells #[.int .i64 0] nk) 3)).alloc (.cells (madeCells #[.slice none 0 0] nk) 23)).alloc (.cells (madeCells #[.slice none 0 0] nk) 23)) nk M m0 m1 v2 v3 0 := by
  subst hM
  have a0 := World.rowIs_made w3 (.int .i64 0) nk 3
  have a1 := World.rowIs_made (w3.alloc (.cells (madeCells #[.int .i64 0] nk) 3)) (.int .i64 0) nk 3
  have a2 := World.rowIs_made ((w3.alloc (.cells (madeCells #[.int .i64 0] nk) 3)).alloc (.cells (madeCells #[.int .i64 0] nk) 3)) (.slice none 0 0) nk 23
  have a3 := World.rowIs_made (((w3.alloc (.cells (madeCells #[.int .i64 0] nk) 3)).alloc (.cells (madeCells #[.int .i64 0] nk) 3)).alloc (.cells (madeCells #[.slice none 0 0] nk) 23)) (.slice none 0 0) nk 23
  rw [World.size_alloc] at a1 a2 a3
  rw [World.size_alloc] at a2 a3
  rw [World.size_alloc] at a3
  exact ⟨((((Below.refl _ _).alloc (Nat.le_refl _) _).alloc (by simp) _).alloc (by simp; omega) _).alloc (by simp; omega) _, by simp, (((a0.alloc _).alloc _).alloc _).congr (fun _ _ => by simp), ((a1.alloc _).alloc _).congr (fun _ _ => by simp), (a2.alloc _).congr (fun _ _ => by simp), a3.congr (fun _ _ => by simp)⟩

theorem ite_succ {α : Type} (j k : Nat) (a : α) (f : Nat → α) (z : α) (ha : a = f k) : (if j = k then a else if j < k then f j else z) = if j < k + 1 then f j else z := by
  by_cases e : j = k
  · subst e; rw [if_pos rfl, if_pos (by omega), ha]
  · rw [if_neg e]
    by_cases e2 : j < k
    · rw [if_pos e2, if_pos (by omega)]
    · rw [if_neg e2, if_neg (by omega)]

theorem ZL2.step {w3 wx : World} {nk M : Nat} {m0 m1 : Nat → Int} {v2 v3 : Nat → Value} {k : Nat} (h : ZL2 w3 wx nk M m0 m1 v2 v3 k) :
    ZL2 w3 ((((wx.setCell ⟨M, k, none⟩ (.int .i64 (m0 k))).setCell ⟨M + 1, k, none⟩ (.int .i64 (m1 k))).setCell ⟨M + 2, k, none⟩ (v2 k)).setCell ⟨M + 3, k, none⟩ (v3 k)) nk M m0 m1 v2 v3 (k + 1) := by
  refine ⟨(((h.bel.setCell (Nat.le_refl _) _).setCell (by show M ≤ M + 1; omega) _).setCell (by show M ≤ M + 2; omega) _).setCell (by show M ≤ M + 3; omega) _, by simp [h.size], ?_, ?_, ?_, ?_⟩
  · refine ((((h.r0.set k _).setOther (by show M ≠ M + 1; omega) _).setOther (by show M ≠ M + 2; omega) _).setOther (by show M ≠ M + 3; omega) _).congr (fun j _ => ?_)
    rw [← ite_succ j k (m0 k) m0 0 rfl]
    by_cases e : j = k <;> simp [e]
  · refine ((((h.r1.setOther (by show M + 1 ≠ M; omega) _).set k _).setOther (by show M + 1 ≠ M + 2; omega) _).setOther (by show M + 1 ≠ M + 3; omega) _).congr (fun j _ => ?_)
    rw [← ite_succ j k (m1 k) m1 0 rfl]
    by_cases e : j = k <;> simp [e]
  · exact ((((h.r2.setOther (by show M + 2 ≠ M; omega) _).setOther (by show M + 2 ≠ M + 1; omega) _).set k _).setOther (by show M + 2 ≠ M + 3; omega) _).congr (fun j _ => ite_succ j k _ _ _ rfl)
  · exact ((((h.r3.setOther (by show M + 3 ≠ M; omega) _).setOther (by show M + 3 ≠ M + 1; omega) _).setOther (by show M + 3 ≠ M + 2; omega) _).set k _).congr (fun j _ => ite_succ j k _ _ _ rfl)

theorem ZOut.of {wrt : Bool} {w W2 w3 wr : World} {pa : Option Addr} {PB n : Nat} {tx : Int} {L : Nat → Nat} {Z : Nat → Nat → Int} {s0 src : Nat → Bool} {nk : Nat} {ka : Option Addr} {kc : Nat} {wa : Option Addr} {nw : Nat} {W : Nat → Int} {ra : Option Addr} {nr : Nat} {R : Nat → Int}
    {WA RA : Nat → Option Addr} {LW CW LR : Nat → Nat} {KW KR : Nat → Nat → Int} {SC : Nat → Int} {MT : Nat → Nat} {vtw vtr : Value} {M : Nat} {m0 m1 : Nat → Int}
    (hB : Below w.heap.size w W2) (hT : TIn W2 pa PB n tx L Z s0 w.heap.size nk ka kc wa nw W ra nr R WA RA LW CW LR KW KR SC MT) (hO : TOut wrt W2 w3 PB n tx L Z src w.heap.size nk wa nw nr R WA RA LW CW LR SC MT vtw vtr) (hM : w3.heap.size = M)
    (hZ : ZL2 w3 wr nk M m0 m1 (fun j => .slice (WA j) (LW j) (CW j)) (fun j => .slice (RA j) (LR j) (LR j)) nk) (e0 : m0 = fun j => if wrt = true then (LR j : Int) else MT j) (e1 : m1 = fun j => if wrt = true then 0 else SC j) :
    ZOut wrt w wr.drew PB n tx L Z src nk wa nw nr R WA RA LW CW LR SC MT vtw vtr M := by
  have hs1 := hO.hfr.size
  have hs2 := hT.hsz
  have hpb := hT.hpb
  have k3 : Fram (fun b => b < M) w3 wr := Fram.of_below hZ.bel (fun _ _ h => h)
  have hwl : ∀ x, wa = some x → x.block < w.heap.size := fun x hx => hT.wlt x hx
  refine ⟨?_, ?_, by omega, hZ.size, fun h => ?_, fun h => ?_, ?_, ?_, ?_, ?_⟩
  · exact (hO.hps.weak (fun k hk _ => by omega)).fram k3.drew (hZ.bel.block PB (by omega))
  · refine (((Fram.of_below hB (fun k _ h => h.1)).trans (hO.hfr.weak (fun k _ h => h.toT))).trans ?_).drew
    exact Fram.of_below hZ.bel (fun k hk _ => by omega)
  · obtain ⟨g, cap, ra', rc, a, b, c⟩ := hO.hw h
    exact ⟨g, cap, ra', rc, a, k3.drew.cell b (by rw [← hM]; exact World.block_lt_of_cell? _ _ b), c⟩
  · obtain ⟨a, b, g, cap, c, cp, d⟩ := hO.hr h
    refine ⟨a, fun x hx => ?_, g, cap, c, cp, (d.weak (fun k hk _ => by omega)).fram k3.drew⟩
    have := hwl x hx
    exact (hZ.bel.block x.block (by omega)).trans ((b x hx).trans (hB.block x.block this))
  · exact hZ.r0.congr (fun j hj => by rw [if_pos hj, e0])
  · exact hZ.r1.congr (fun j hj => by rw [if_pos hj, e1])
  · exact hZ.r2.congr (fun j hj => by rw [if_pos hj])
  · exact hZ.r3.congr (fun j hj => by rw [if_pos hj])

set_option maxHeartbeats 2000000 in
set_option maxRecDepth 100000 in
theorem zz_any (w : World) (pa : Option Addr) (PB n pc : Nat) (tx kind : Int) (L : Nat → Nat) (Z : Nat → Nat → Int) (nk c3 c4 c5 c6 : Nat) (kwa kra ma sa : Option Addr) (wa : Option Addr) (nw : Nat) (W : Nat → Int) (ra : Option Addr) (nr : Nat) (R : Nat → Int)
    (WA RA : Nat → Option Addr) (LW CW LR : Nat → Nat) (KW KR : Nat → Nat → Int) (SC : Nat → Int) (MT : Nat → Nat)
    (h : ZIn w pa PB n tx L Z nk kwa kra ma sa wa nw W ra nr R WA RA LW CW LR KW KR SC MT) (d : TDom n L nk nw nr W R LW LR KW KR MT) :
    Calls Try.prog 8 #[.slice pa n pc, .slice wa nw nw, .slice ra nr nr, .slice kwa nk c3, .slice kra nk c4, .slice ma nk c5, .slice sa nk c6, .int .i64 tx, .int .u8 kind] w fun e w' => ∃ vtw vtr M, e = .returned (.tuple #[vtw, vtr, .slice (some ⟨M, 0, none⟩) nk nk, .slice (some ⟨M + 1, 0, none⟩) nk nk, .slice (some ⟨M + 2, 0, none⟩) nk nk, .slice (some ⟨M + 3, 0, none⟩) nk nk]) ∧
      ZOut (kind == 2) w w' PB n tx L Z (srcK (kind == 2) KW KR LW LR MT (src0 (kind == 2) (fun _ => false) W R nw nr) nk) nk wa nw nr R WA RA LW CW LR SC MT vtw vtr M := by
  have HI : Hid (ZIn w pa PB n tx L Z nk kwa kra ma sa wa nw W ra nr R WA RA LW CW LR KW KR SC MT) := h
  have HD : Hid (TDom n L nk nw nr W R LW LR KW KR MT) := d
  have hnk := d.hnk
  clear h d
  have hmk := run_make_row' (P := Try.prog) 34 35 (.pointer none) 8 Try.underlying34 Try.info35 rfl .i64 .i64 nk (by omega) (by omega)
  go_enter Try.func8, Try.ntmps8
  go_wp2
  clear hmk
  go_loopg [25] nk (fun g s25 wr => ∃ i : Nat, i ≤ nk ∧ g = nk - i ∧ s25 = .int .i64 i ∧ ZL1 w wr nk WA RA LW CW LR SC MT i)
  case atStart => exact ⟨0, Nat.zero_le _, rfl, rfl, (Below.refl _ _).alloc (Nat.le_refl _) _, by simp, (World.rowIs_made w _ nk 35).congr (fun _ _ => by simp), fun j hj => absurd hj (Nat.not_lt_zero _)⟩
  case round =>
    obtain ⟨i, hi, rfl, rfl, hL⟩ := hrel
    by_cases hlt : i < nk
    · obtain ⟨b1, o1, rfl, hf1, hc1⟩ := HI.out.hkw (by omega)
      obtain ⟨b2, o2, rfl, hf2, hc2⟩ := HI.out.hkr (by omega)
      obtain ⟨b3, o3, rfl, hf3, hc3⟩ := HI.out.hmt (by omega)
      obtain ⟨b4, o4, rfl, hf4, hc4⟩ := HI.out.hsc (by omega)
      have g1 : wr.cell? ⟨b1, o1 + i, none⟩ = some (.slice (WA i) (LW i) (CW i)) := by rw [hL.bel.cell (p := ⟨b1, o1 + i, none⟩) hf1.1]; exact (hc1 i hlt).1
      have g2 : wr.cell? ⟨b2, o2 + i, none⟩ = some (.slice (RA i) (LR i) (LR i)) := by rw [hL.bel.cell (p := ⟨b2, o2 + i, none⟩) hf2.1]; exact (hc2 i hlt).1
      have g3 : wr.cell? ⟨b3, o3 + i, none⟩ = some (.int .i64 (MT i : Int)) := by rw [hL.bel.cell (p := ⟨b3, o3 + i, none⟩) hf3.1]; exact hc3 i hlt
      have g4 : wr.cell? ⟨b4, o4 + i, none⟩ = some (.int .i64 (SC i)) := by rw [hL.bel.cell (p := ⟨b4, o4 + i, none⟩) hf4.1]; exact hc4 i hlt
      have k1 := hL.keys.cell hlt
      have k2 := hL.keys.frozen i
      have hiz : (i : Int) < (nk : Int) := by omega
      have hsz := hL.size
      have k1' : ∀ o, (wr.alloc o).cell? ⟨w.heap.size, i, none⟩ = some (.pointer none) := fun o => by have := (hL.keys.alloc o).cell hlt; simpa using this
      have k2' : ∀ o, (wr.alloc o).frozen? ⟨w.heap.size, i, none⟩ = false := fun o => (hL.keys.alloc o).frozen i
      clear hc1 hc2 hc3 hc4 k1 k2
      go_wp2
      go_region
      all_goals go_wp2
      go_roundg (nk - (i + 1))
      case measure => go_light; omega
      case rel => go_light; exact ⟨i + 1, by omega, rfl, by go_num, hL.step⟩
    · obtain rfl : i = nk := by omega
      have hT := hL.tin HI.out
      have hsz := hL.size
      have HBW := hid (hL.bel.alloc (by omega) (.cells #[.slice none 0 0, .slice none 0 0, .map none, .pointer none, .slice wa nw nw, .slice ra nr nr, .slice (some ⟨w.heap.size, 0, none⟩) i i, .int .i64 0, .int .i64 0] 41))
      clear hL
      go_wp2_with fail
      refine (table_any _ pa PB n pc tx kind L Z (fun _ => false) w.heap.size i (some ⟨w.heap.size, 0, none⟩) i wa nw W ra nr R WA RA LW CW LR KW KR SC MT hT HD.out).mono ?_
      rintro e w3 ⟨rfl, vtw, vtr, hO⟩
      obtain ⟨M, hM⟩ : ∃ M, w3.heap.size = M := ⟨_, rfl⟩
      have hK : ∀ j, j < i → w3.cell? ⟨w.heap.size, j, none⟩ = some (.pointer (some ⟨w.heap.size + 1 + j, 0, none⟩)) := fun j hj => hO.hfr.cell (hT.hkeys j hj) ⟨fun _ => by have := hT.hpb; omega, fun x hx => by have := hT.wlt x hx; omega, .inl (Nat.le_refl _)⟩
      have hMk : w.heap.size + 1 + i < M := by have := hO.hfr.size; have := hT.hsz; omega
      have HK : Hid (∀ j, j < i → w3.cell? ⟨w.heap.size, j, none⟩ = some (.pointer (some ⟨w.heap.size + 1 + j, 0, none⟩))) := hK
      have HO := hid hO
      have HT := hid hT
      clear hO hT hK hsz
      obtain ⟨m0, hm0⟩ : ∃ m : Nat → Int, m = fun j => if (kind == 2) = true then (LR j : Int) else MT j := ⟨_, rfl⟩
      obtain ⟨m1, hm1⟩ : ∃ m : Nat → Int, m = fun j => if (kind == 2) = true then 0 else SC j := ⟨_, rfl⟩
      have HE : Hid (∀ j, j < i → KEl w3 (w.heap.size + 1 + j) (WA j) (LW j) (CW j) (RA j) (LR j) (LR j) (m1 j) (m0 j)) := by rw [hm0, hm1]; exact HO.out.hel
      have HM0 := hid hm0
      have HM1 := hid hm1
      clear hm0 hm1
      have hmk3 := run_make_row' (P := Try.prog) 23 3 (.int .i64 0) 8 Try.underlying23 Try.info3 rfl .i64 .i64 i (by omega) (by omega)
      have hmk23 := run_make_row' (P := Try.prog) 22 23 (.slice none 0 0) 24 Try.underlying22 Try.info23 rfl .i64 .i64 i (by omega) (by omega)
      go_wp2
      clear hmk3 hmk23
      go_loopg [31] i (fun g s31 wx => ∃ k : Nat, k ≤ i ∧ g = i - k ∧ s31 = .int .i64 k ∧ ZL2 w3 wx i M m0 m1 (fun j => .slice (WA j) (LW j) (CW j)) (fun j => .slice (RA j) (LR j) (LR j)) k)
      case atStart => exact ⟨0, Nat.zero_le _, rfl, rfl, ZL2.start w3 i M hM _ _ _ _⟩
      case round =>
        obtain ⟨k, hk, rfl, rfl, hZ⟩ := hrel
        have hZs := hZ.size
        by_cases hlt2 : k < i
        · have kp : wr.cell? ⟨w.heap.size, k, none⟩ = some (.pointer (some ⟨w.heap.size + 1 + k, 0, none⟩)) := by rw [hZ.bel.cell (p := ⟨w.heap.size, k, none⟩) (by show w.heap.size < M; omega)]; exact HK.out k hlt2
          have ke := (HE.out k hlt2).block (hZ.bel.block (w.heap.size + 1 + k) (by omega))
          have e4 := ke.kw
          have e5 := ke.kr
          have e7 := ke.sc
          have e8 := ke.met
          have r0 := hZ.r0.cell hlt2
          have r1 := hZ.r1.cell hlt2
          have r2 := hZ.r2.cell hlt2
          have r3 := hZ.r3.cell hlt2
          have s0 := hZ.r0.frozen k
          have s1 := hZ.r1.frozen k
          have s2 := hZ.r2.frozen k
          have s3 := hZ.r3.frozen k
          rw [if_neg (Nat.lt_irrefl _)] at r0 r1 r2 r3
          have hst := hid hZ.step
          clear ke hZ
          go_wp2
          go_roundg (i - (k + 1))
          case measure => go_light; omega
          case rel => go_light; exact ⟨k + 1, by omega, rfl, by go_num, hst.out⟩
        · obtain rfl : k = i := by omega
          have q4 : wr.cell? ⟨w.heap.size + 1 + k, 4, none⟩ = some vtw := by rw [hZ.bel.cell (p := ⟨w.heap.size + 1 + k, 4, none⟩) (by show w.heap.size + 1 + k < M; omega)]; exact HO.out.h4
          have q5 : wr.cell? ⟨w.heap.size + 1 + k, 5, none⟩ = some vtr := by rw [hZ.bel.cell (p := ⟨w.heap.size + 1 + k, 5, none⟩) (by show w.heap.size + 1 + k < M; omega)]; exact HO.out.h5
          have HZ := hid hZ
          clear hZ
          go_wp2
          go_region
          all_goals go_wp2
          have hfin := ZOut.of HBW.out HT.out HO.out hM HZ.out HM0.out HM1.out
          exact bodyPost_ret (v := .tuple #[vtw, vtr, .slice (some ⟨M, 0, none⟩) k k, .slice (some ⟨M + 1, 0, none⟩) k k, .slice (some ⟨M + 2, 0, none⟩) k k, .slice (some ⟨M + 3, 0, none⟩) k k]) (by simp [results, Try.results8, go_sem]) rfl ⟨vtw, vtr, M, rfl, hfin⟩
end Go.Proofs.Qxb6623442a
