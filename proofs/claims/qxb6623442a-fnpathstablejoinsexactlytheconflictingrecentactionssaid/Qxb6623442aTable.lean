/- (paths).table. -/
import Derived.Test.Qxb6623442aFollows
namespace Go.Proofs.Qxb6623442a
open Go.RowKit
set_option linter.unusedVariables false
attribute [local go_sem ↓] Go.wp_at_zero Go.wp_at_succ

/-- The sources, i keys looked at. -/
def srcK (wr : Bool) (KW KR : Nat → Nat → Int) (LW LR MT : Nat → Nat) (s0 : Nat → Bool) : Nat → (Nat → Bool)
  | 0 => s0
  | i + 1 => if wr then ors (ors (srcK wr KW KR LW LR MT s0 i) (KW i) (LW i)) (fun j => KR i (MT i + j)) (LR i - MT i) else ors (srcK wr KW KR LW LR MT s0 i) (KW i) (LW i)

/-- The key's element at block E. -/
structure KEl (w : World) (E : Nat) (wa : Option Addr) (lw cw : Nat) (ra : Option Addr) (lr cr : Nat) (sc met : Int) : Prop where
  kw : w.cell? ⟨E, 4, none⟩ = some (.slice wa lw cw)
  kr : w.cell? ⟨E, 5, none⟩ = some (.slice ra lr cr)
  sc : w.cell? ⟨E, 7, none⟩ = some (.int .i64 sc)
  met : w.cell? ⟨E, 8, none⟩ = some (.int .i64 met)
  f7 : w.frozen? ⟨E, 7, none⟩ = false
  f8 : w.frozen? ⟨E, 8, none⟩ = false

theorem KEl.block {w w' : World} {E : Nat} {wa : Option Addr} {lw cw : Nat} {ra : Option Addr} {lr cr : Nat} {sc met : Int} (h : KEl w E wa lw cw ra lr cr sc met) (e : w'.heap[E]? = w.heap[E]?) : KEl w' E wa lw cw ra lr cr sc met := by
  have c : ∀ q, w'.cell? ⟨E, q, none⟩ = w.cell? ⟨E, q, none⟩ := fun q => World.cell?_of_block (w := w) e
  have f : ∀ q, w'.frozen? ⟨E, q, none⟩ = w.frozen? ⟨E, q, none⟩ := fun q => World.frozen?_of_block (w := w) e
  exact ⟨by rw [c]; exact h.kw, by rw [c]; exact h.kr, by rw [c]; exact h.sc, by rw [c]; exact h.met, by rw [f]; exact h.f7, by rw [f]; exact h.f8⟩
theorem KEl.lt {w : World} {E : Nat} {wa : Option Addr} {lw cw : Nat} {ra : Option Addr} {lr cr : Nat} {sc met : Int} (h : KEl w E wa lw cw ra lr cr sc met) : E < w.heap.size := World.block_lt_of_cell? _ _ h.kw
theorem KEl.put {w : World} {E : Nat} {wa : Option Addr} {lw cw : Nat} {ra : Option Addr} {lr cr : Nat} {sc met : Int} (h : KEl w E wa lw cw ra lr cr sc met) (s m : Int) :
    KEl ((w.setCell ⟨E, 8, none⟩ (.int .i64 m)).setCell ⟨E, 7, none⟩ (.int .i64 s)) E wa lw cw ra lr cr s m := by
  refine ⟨?_, ?_, ?_, ?_, by simpa using h.f7, by simpa using h.f8⟩
  · rw [World.cell?_setCell_other _ _ _ _ (by simp), World.cell?_setCell_other _ _ _ _ (by simp)]; exact h.kw
  · rw [World.cell?_setCell_other _ _ _ _ (by simp), World.cell?_setCell_other _ _ _ _ (by simp)]; exact h.kr
  · exact World.cell?_setCell_same _ _ _ (by rw [World.cell?_setCell_other _ _ _ _ (by simp)]; exact h.sc)
  · rw [World.cell?_setCell_other _ _ _ _ (by simp)]; exact World.cell?_setCell_same _ _ _ h.met

/-- The blocks that the call never writes. -/
def FrT (n PB KB nk : Nat) (wa : Option Addr) : Nat → Prop := fun b => (0 < n → b ≠ PB) ∧ (∀ x, wa = some x → b ≠ x.block) ∧ (b ≤ KB ∨ KB + 1 + nk < b)
/-- .. nor ahead of 'follows'. -/
def FrL (n PB KB nk : Nat) : Nat → Prop := fun b => (0 < n → b ≠ PB) ∧ (b ≤ KB ∨ KB + 1 + nk ≤ b)
theorem FrT.toL {n PB KB nk : Nat} {wa : Option Addr} {b : Nat} (h : FrT n PB KB nk wa b) : FrL n PB KB nk b := ⟨h.1, by have := h.2.2; omega⟩

structure TIn (w : World) (pa : Option Addr) (PB n : Nat) (tx : Int) (L : Nat → Nat) (Z : Nat → Nat → Int) (src : Nat → Bool) (KB nk : Nat) (ka : Option Addr) (kc : Nat) (wa : Option Addr) (nw : Nat) (W : Nat → Int) (ra : Option Addr) (nr : Nat) (R : Nat → Int)
    (WA RA : Nat → Option Addr) (LW CW LR : Nat → Nat) (KW KR : Nat → Nat → Int) (SC : Nat → Int) (MT : Nat → Nat) : Prop where
  hpa : 0 < n → pa = some ⟨PB, 0, none⟩
  hpb : PB < KB
  hsz : KB + 1 + nk < w.heap.size
  hps : PSt (FrT n PB KB nk wa) w PB n tx L Z src
  hka : 0 < nk → ka = some ⟨KB, 0, none⟩
  ht4 : w.cell? ⟨KB + 1 + nk, 4, none⟩ = some (.slice wa nw nw)
  ht5 : w.cell? ⟨KB + 1 + nk, 5, none⟩ = some (.slice ra nr nr)
  ht6 : w.cell? ⟨KB + 1 + nk, 6, none⟩ = some (.slice ka nk kc)
  hf4 : w.frozen? ⟨KB + 1 + nk, 4, none⟩ = false
  hf5 : w.frozen? ⟨KB + 1 + nk, 5, none⟩ = false
  htw : (wa = none ∧ nw = 0) ∨ ∃ TW, wa = some ⟨TW, 0, none⟩ ∧ TW < KB ∧ TW ≠ PB ∧ w.rowIs TW 3 nw (fun i => .int .i64 (W i))
  hrn : ra = none → nr = 0
  hrs : SlF (FrT n PB KB nk wa) w ra nr R
  hkeys : ∀ i, i < nk → w.cell? ⟨KB, i, none⟩ = some (.pointer (some ⟨KB + 1 + i, 0, none⟩))
  hel : ∀ i, i < nk → KEl w (KB + 1 + i) (WA i) (LW i) (CW i) (RA i) (LR i) (LR i) (SC i) (MT i)
  hws : ∀ i, i < nk → SlF (FrT n PB KB nk wa) w (WA i) (LW i) (KW i)
  hrrs : ∀ i, i < nk → SlF (FrT n PB KB nk wa) w (RA i) (LR i) (KR i)

/-- The lengths, and that all are transactions of the paths. -/
structure TDom (n : Nat) (L : Nat → Nat) (nk nw nr : Nat) (W R : Nat → Int) (LW LR : Nat → Nat) (KW KR : Nat → Nat → Int) (MT : Nat → Nat) : Prop where
  hn : n ≤ 1048576
  hL : ∀ v, v < n → L v ≤ 1048576
  hnk : nk ≤ 1048576
  hnw : nw ≤ 1048576
  hnr : nr ≤ 1048576
  hLW : ∀ i, i < nk → LW i ≤ 1048576
  hLR : ∀ i, i < nk → LR i ≤ 1048576
  hMT : ∀ i, i < nk → MT i ≤ LR i
  hW : ∀ i, i < nw → 0 ≤ W i ∧ W i < (n : Int)
  hR : ∀ i, i < nr → 0 ≤ R i ∧ R i < (n : Int)
  hKW : ∀ i, i < nk → ∀ j, j < LW i → 0 ≤ KW i j ∧ KW i j < (n : Int)
  hKR : ∀ i, i < nk → ∀ j, j < LR i → 0 ≤ KR i j ∧ KR i j < (n : Int)

/-- At the head of the loop over the keys. -/
structure TLp (w wr : World) (PB n : Nat) (tx : Int) (L : Nat → Nat) (Z : Nat → Nat → Int) (src : Nat → Bool) (KB nk : Nat) (wa : Option Addr) (WA RA : Nat → Option Addr) (LW CW LR : Nat → Nat) (SC : Nat → Int) (MT : Nat → Nat) (wrt : Bool) (i : Nat) : Prop where
  ps : PSt (FrT n PB KB nk wa) wr PB n tx L Z src
  fr : Fram (FrL n PB KB nk) w wr
  el : ∀ j, j < nk → KEl wr (KB + 1 + j) (WA j) (LW j) (CW j) (RA j) (LR j) (LR j) (if wrt = true ∧ j < i then 0 else SC j) (if wrt = true ∧ j < i then (LR j : Int) else MT j)

section
variable {w wr w1 : World} {PB n : Nat} {tx : Int} {L : Nat → Nat} {Z : Nat → Nat → Int} {src src' : Nat → Bool} {KB nk : Nat} {wa : Option Addr} {WA RA : Nat → Option Addr} {LW CW LR : Nat → Nat} {SC : Nat → Int} {MT : Nat → Nat} {wrt : Bool} {i : Nat}

/-- Behind a join. -/
theorem TLp.joined (h : TLp w wr PB n tx L Z src KB nk wa WA RA LW CW LR SC MT wrt i) (hpb : PB < KB) (hp : PSt (FrT n PB KB nk wa) w1 PB n tx L Z src') (hg : wr.grownBy w1 (pbo n PB)) : TLp w w1 PB n tx L Z src' KB nk wa WA RA LW CW LR SC MT wrt i :=
  ⟨hp, h.fr.grown hg (fun k hk => by unfold pbo at hk; split at hk <;> cases hk; exact fun x => x.1 (by omega) rfl), fun j hj => (h.el j hj).block (hg.block _ (h.el j hj).lt (by unfold pbo; split <;> simp; omega))⟩

/-- No write: the next key. -/
theorem TLp.next (h : TLp w wr PB n tx L Z src KB nk wa WA RA LW CW LR SC MT false i) : TLp w wr PB n tx L Z src KB nk wa WA RA LW CW LR SC MT false (i + 1) :=
  ⟨h.ps, h.fr, fun j hj => by have := h.el j hj; simpa using this⟩

/-- A write: the key's two counts. -/
theorem TLp.put (h : TLp w wr PB n tx L Z src KB nk wa WA RA LW CW LR SC MT true i) (hpb : PB < KB) (hi : i < nk) :
    TLp w ((wr.setCell ⟨KB + 1 + i, 8, none⟩ (.int .i64 (LR i))).setCell ⟨KB + 1 + i, 7, none⟩ (.int .i64 0)) PB n tx L Z src KB nk wa WA RA LW CW LR SC MT true (i + 1) := by
  have hL : ¬ FrL n PB KB nk (KB + 1 + i) := fun x => by have := x.2; omega
  have hT : ¬ FrT n PB KB nk wa (KB + 1 + i) := fun x => by have := x.2.2; omega
  have hb : ∀ b, b ≠ KB + 1 + i → ((wr.setCell ⟨KB + 1 + i, 8, none⟩ (.int .i64 (LR i))).setCell ⟨KB + 1 + i, 7, none⟩ (.int .i64 0)).heap[b]? = wr.heap[b]? := fun b hb => by
    rw [Below.heap_setCell _ _ _ _ hb, Below.heap_setCell _ _ _ _ hb]
  refine ⟨h.ps.fram (((Fram.refl _ _).setCell hT _).setCell hT _) (hb PB (by omega)), (h.fr.setCell hL _).setCell hL _, fun j hj => ?_⟩
  by_cases e : j = i
  · subst e
    have := (h.el j hj).put 0 (LR j)
    simpa using this
  · have h2 := (h.el j hj).block (hb (KB + 1 + j) (by omega))
    by_cases e2 : j < i
    · simpa [e2, show j < i + 1 by omega] using h2
    · simpa [e2, show ¬ j < i + 1 by omega] using h2
end

theorem TIn.start {w : World} {pa : Option Addr} {PB n : Nat} {tx : Int} {L : Nat → Nat} {Z : Nat → Nat → Int} {src : Nat → Bool} {KB nk : Nat} {ka : Option Addr} {kc : Nat} {wa : Option Addr} {nw : Nat} {W : Nat → Int} {ra : Option Addr} {nr : Nat} {R : Nat → Int}
    {WA RA : Nat → Option Addr} {LW CW LR : Nat → Nat} {KW KR : Nat → Nat → Int} {SC : Nat → Int} {MT : Nat → Nat} (h : TIn w pa PB n tx L Z src KB nk ka kc wa nw W ra nr R WA RA LW CW LR KW KR SC MT) (wrt : Bool) :
    TLp w w PB n tx L Z src KB nk wa WA RA LW CW LR SC MT wrt 0 :=
  ⟨h.hps, Fram.refl _ _, fun j hj => by have := h.hel j hj; simpa using this⟩

theorem TIn.wsl {w : World} {pa : Option Addr} {PB n : Nat} {tx : Int} {L : Nat → Nat} {Z : Nat → Nat → Int} {src : Nat → Bool} {KB nk : Nat} {ka : Option Addr} {kc : Nat} {wa : Option Addr} {nw : Nat} {W : Nat → Int} {ra : Option Addr} {nr : Nat} {R : Nat → Int}
    {WA RA : Nat → Option Addr} {LW CW LR : Nat → Nat} {KW KR : Nat → Nat → Int} {SC : Nat → Int} {MT : Nat → Nat} (h : TIn w pa PB n tx L Z src KB nk ka kc wa nw W ra nr R WA RA LW CW LR KW KR SC MT) : SlF (FrL n PB KB nk) w wa nw W := by
  rcases h.htw with ⟨e1, e2⟩ | ⟨TW, e1, e2, e3, e4⟩
  · rw [e2]; exact SlF.zero _ _ _ _
  · rw [e1]; exact SlF.of_row e4 ⟨fun _ => e3, by omega⟩

theorem FrT.new {n PB KB nk : Nat} {wa : Option Addr} {b M : Nat} (hp : PB < KB) (hM : KB + 1 + nk < M) (hw : ∀ x, wa = some x → x.block < M) (h : M ≤ b) : FrT n PB KB nk wa b :=
  ⟨fun _ => by omega, fun x hx => by have := hw x hx; omega, by omega⟩
theorem TIn.wlt {w : World} {pa : Option Addr} {PB n : Nat} {tx : Int} {L : Nat → Nat} {Z : Nat → Nat → Int} {src : Nat → Bool} {KB nk : Nat} {ka : Option Addr} {kc : Nat} {wa : Option Addr} {nw : Nat} {W : Nat → Int} {ra : Option Addr} {nr : Nat} {R : Nat → Int}
    {WA RA : Nat → Option Addr} {LW CW LR : Nat → Nat} {KW KR : Nat → Nat → Int} {SC : Nat → Int} {MT : Nat → Nat} (h : TIn w pa PB n tx L Z src KB nk ka kc wa nw W ra nr R WA RA LW CW LR KW KR SC MT) : ∀ x, wa = some x → x.block < KB := by
  intro x hx
  rcases h.htw with ⟨e1, _⟩ | ⟨TW, e1, e2, _⟩
  · rw [e1] at hx; cases hx
  · rw [e1] at hx; cases hx; exact e2

/-- What 'table' leaves, whatever the kind but a write. -/
structure TOutR (w w' : World) (PB n : Nat) (tx : Int) (L : Nat → Nat) (Z : Nat → Nat → Int) (src : Nat → Bool) (KB nk : Nat) (wa : Option Addr) (nw nr : Nat) (R : Nat → Int) (WA RA : Nat → Option Addr) (LW CW LR : Nat → Nat) (SC : Nat → Int) (MT : Nat → Nat) : Prop where
  hps : PSt (FrT n PB KB nk wa) w' PB n tx L Z src
  hfr : Fram (FrT n PB KB nk wa) w w'
  hel : ∀ j, j < nk → KEl w' (KB + 1 + j) (WA j) (LW j) (CW j) (RA j) (LR j) (LR j) (SC j) (MT j)
  htw : ∀ x, wa = some x → w'.heap[x.block]? = w.heap[x.block]?
  ht4 : w'.cell? ⟨KB + 1 + nk, 4, none⟩ = some (.slice wa nw nw)
  ht5 : ∃ g cap, w'.cell? ⟨KB + 1 + nk, 5, none⟩ = some (.slice (some ⟨g, 0, none⟩) (nr + 1) cap) ∧ nr + 1 ≤ cap ∧ SlF (FrT n PB KB nk wa) w' (some ⟨g, 0, none⟩) (nr + 1) (fun i => if i < nr then R i else tx)

set_option maxHeartbeats 2000000 in
set_option maxRecDepth 100000 in
theorem table_read (w : World) (pa : Option Addr) (PB n pc : Nat) (tx kind : Int) (L : Nat → Nat) (Z : Nat → Nat → Int) (src : Nat → Bool) (KB nk : Nat) (ka : Option Addr) (kc : Nat) (wa : Option Addr) (nw : Nat) (W : Nat → Int) (ra : Option Addr) (nr : Nat) (R : Nat → Int)
    (WA RA : Nat → Option Addr) (LW CW LR : Nat → Nat) (KW KR : Nat → Nat → Int) (SC : Nat → Int) (MT : Nat → Nat) (hk : kind ≠ 2)
    (h : TIn w pa PB n tx L Z src KB nk ka kc wa nw W ra nr R WA RA LW CW LR KW KR SC MT) (d : TDom n L nk nw nr W R LW LR KW KR MT) :
    Calls Try.prog 11 #[.slice pa n pc, .pointer (some ⟨KB + 1 + nk, 0, none⟩), .int .i64 tx, .int .u8 kind] w fun e w' => e = .returned (.tuple #[]) ∧ TOutR w w' PB n tx L Z (srcK false KW KR LW LR MT (ors src W nw) nk) KB nk wa nw nr R WA RA LW CW LR SC MT := by
  have hk' : (kind == 2) = false := beq_eq_false_iff_ne.2 hk
  have t4 := h.ht4
  have HI : Hid (TIn w pa PB n tx L Z src KB nk ka kc wa nw W ra nr R WA RA LW CW LR KW KR SC MT) := h
  have HD : Hid (TDom n L nk nw nr W R LW LR KW KR MT) := d
  have hpb := h.hpb
  have hnk := d.hnk
  clear h d
  go_enter Try.func11, Try.ntmps11
  go_wp2_with fail
  refine (join_any (FrT n PB KB nk wa) (FrL n PB KB nk) pa PB n pc tx L Z src wa nw nw W w HI.out.hpa HD.out.hn HD.out.hnw HD.out.hL (fun hn x => x.1 hn rfl) (fun hn x => x.1 hn rfl) (fun b hb => FrT.new hpb HI.out.hsz (fun x hx => by have := HI.out.wlt x hx; have := HI.out.hsz; omega) hb) HI.out.hps HI.out.wsl HD.out.hW).mono ?_
  rintro e w1 ⟨rfl, hps1, hg1⟩
  have hL1 := (HI.out.start false).joined hpb hps1 hg1
  have t6 : w1.cell? ⟨KB + 1 + nk, 6, none⟩ = some (.slice ka nk kc) := hL1.fr.cell HI.out.ht6 ⟨fun _ => by omega, by omega⟩
  clear hps1 hg1 t4
  go_wp2
  go_loopg [35] nk (fun g s35 wr => ∃ i : Nat, i ≤ nk ∧ g = nk - i ∧ s35 = .int .i64 i ∧ TLp w wr PB n tx L Z (srcK false KW KR LW LR MT (ors src W nw) i) KB nk wa WA RA LW CW LR SC MT false i)
  case atStart => exact ⟨0, Nat.zero_le _, rfl, rfl, hL1⟩
  case round =>
    obtain ⟨i, hi, rfl, rfl, hL⟩ := hrel
    clear hL1 t6
    by_cases hlt : i < nk
    · obtain rfl := HI.out.hka (by omega)
      have g1 : wr.cell? ⟨KB, i, none⟩ = some (.pointer (some ⟨KB + 1 + i, 0, none⟩)) := hL.fr.cell (HI.out.hkeys i hlt) ⟨fun _ => by omega, by omega⟩
      have g2 := (hL.el i hlt).kw
      go_wp2_with fail
      refine (join_any (FrT n PB KB nk wa) (FrT n PB KB nk wa) pa PB n pc tx L Z _ (WA i) (LW i) (CW i) (KW i) wr HI.out.hpa HD.out.hn (HD.out.hLW i hlt) HD.out.hL (fun hn x => x.1 hn rfl) (fun hn x => x.1 hn rfl) (fun b hb => FrT.new hpb HI.out.hsz (fun x hx => by have := HI.out.wlt x hx; have := HI.out.hsz; omega) (Nat.le_trans hL.fr.size hb)) hL.ps ((HI.out.hws i hlt).fram (hL.fr.weak (fun _ _ x => x.toL))) (HD.out.hKW i hlt)).mono ?_
      rintro e w2 ⟨rfl, hps2, hg2⟩
      have hL2 := (hL.joined hpb hps2 hg2).next
      clear hL hps2 hg2 g1 g2
      go_wp2
      go_roundg (nk - (i + 1))
      case measure => go_light; omega
      case rel => go_light; exact ⟨i + 1, by omega, rfl, by go_num, hL2⟩
    · obtain rfl : i = nk := by omega
      have t5 : wr.cell? ⟨KB + 1 + i, 5, none⟩ = some (.slice ra nr nr) := hL.fr.cell HI.out.ht5 ⟨fun _ => by omega, by omega⟩
      have f5 : wr.frozen? ⟨KB + 1 + i, 5, none⟩ = false := by rw [hL.fr.frozen HI.out.hsz ⟨fun _ => by omega, by omega⟩]; exact HI.out.hf5
      have hrs := HI.out.hrs.fram (hL.fr.weak (fun _ _ x => x.toL))
      go_wp2_with fail
      refine (follows_read (FrT n PB KB i wa) (KB + 1 + i) tx kind ra nr R wr hk HD.out.hnr HI.out.hrn t5 f5 hrs).mono ?_
      rintro e w2 ⟨rfl, hg2, ho2, g, cap, hc2, hcp2, hge2, hs2⟩
      have hfin : Hid (TOutR w w2 PB n tx L Z (srcK false KW KR LW LR MT (ors src W nw) i) KB i wa nw nr R WA RA LW CW LR SC MT) := by
        have hF : Fram (FrT n PB KB i wa) wr w2 := (Fram.refl _ _).grown hg2 (fun k hk => by cases hk; exact fun x => by have := x.2.2; omega)
        refine ⟨hL.ps.fram hF ?_, (hL.fr.weak (fun _ _ x => x.toL)).trans hF, fun j hj => ?_, fun x hx => ?_, ?_, g, cap, hc2, hcp2, hs2.weak (fun b hb hle => ?_)⟩
        · exact hg2.block PB (by have := hL.fr.size; have := HI.out.hsz; omega) (by simp; omega)
        · have := (hL.el j hj).block (hg2.block _ (hL.el j hj).lt (by simp; omega))
          simpa using this
        · have hx' := HI.out.wlt x hx
          have hsz := HI.out.hsz
          have hs' := hL.fr.size
          have hne : x.block ≠ PB := by
            rcases HI.out.htw with ⟨e1, _⟩ | ⟨TW, e1, _, e3, _⟩
            · rw [e1] at hx; cases hx
            · rw [e1] at hx; cases hx; exact e3
          exact (hg2.block x.block (by omega) (by simp; omega)).trans (hL.fr.block x.block (by omega) ⟨fun _ => hne, by omega⟩)
        · rw [ho2 4 (by omega)]; exact hL.fr.cell HI.out.ht4 ⟨fun _ => by omega, by omega⟩
        · exact FrT.new hpb HI.out.hsz (fun x hx => by have := HI.out.wlt x hx; have := HI.out.hsz; omega) (Nat.le_trans hL.fr.size hle)
      clear hL hrs hg2 ho2 hc2 hs2 t5 f5
      go_wp2
      go_end0
      exact ⟨rfl, hfin.out⟩
end Go.Proofs.Qxb6623442a
