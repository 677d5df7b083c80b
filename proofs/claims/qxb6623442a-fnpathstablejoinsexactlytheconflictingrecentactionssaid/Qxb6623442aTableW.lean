/- (paths).table, a write. -/
import Derived.Test.Qxb6623442aTable
import Derived.Deep.RegionWith
import Derived.Deep.DeepFit
namespace Go.Proofs.Qxb6623442a
open Go.RowKit
set_option linter.unusedVariables false
attribute [local go_sem ↓] Go.wp_at_zero Go.wp_at_succ

theorem PSt.drew {Fr : Nat → Prop} {w : World} {PB n : Nat} {tx : Int} {L : Nat → Nat} {Z : Nat → Nat → Int} {src : Nat → Bool} (h : PSt Fr w PB n tx L Z src) : PSt Fr w.drew PB n tx L Z src := h
theorem SlF.drew {Fr : Nat → Prop} {w : World} {a : Option Addr} {n : Nat} {f : Nat → Int} (h : SlF Fr w a n f) : SlF Fr w.drew a n f := h
theorem grown_undrew {w w' : World} {r : Option Nat} (h : w.drew.grownBy w' r) : w.grownBy w' r := ⟨h.os, h.tape, h.output, h.size, h.block⟩

/-- What 'table' leaves behind a write. -/
structure TOutW (w w' : World) (PB n : Nat) (tx : Int) (L : Nat → Nat) (Z : Nat → Nat → Int) (src : Nat → Bool) (KB nk : Nat) (wa : Option Addr) (WA RA : Nat → Option Addr) (LW CW LR : Nat → Nat) : Prop where
  hps : PSt (FrT n PB KB nk wa) w' PB n tx L Z src
  hfr : Fram (FrT n PB KB nk wa) w w'
  hel : ∀ j, j < nk → KEl w' (KB + 1 + j) (WA j) (LW j) (CW j) (RA j) (LR j) (LR j) 0 (LR j)
  ht : ∃ g cap ra rc, w'.cell? ⟨KB + 1 + nk, 4, none⟩ = some (.slice (some ⟨g, 0, none⟩) 1 cap) ∧ w'.cell? ⟨g, 0, none⟩ = some (.int .i64 tx) ∧ w'.cell? ⟨KB + 1 + nk, 5, none⟩ = some (.slice ra 0 rc)

set_option maxHeartbeats 2000000 in
set_option maxRecDepth 100000 in
theorem table_write (w : World) (pa : Option Addr) (PB n pc : Nat) (tx : Int) (L : Nat → Nat) (Z : Nat → Nat → Int) (src : Nat → Bool) (KB nk : Nat) (ka : Option Addr) (kc : Nat) (wa : Option Addr) (nw : Nat) (W : Nat → Int) (ra : Option Addr) (nr : Nat) (R : Nat → Int)
    (WA RA : Nat → Option Addr) (LW CW LR : Nat → Nat) (KW KR : Nat → Nat → Int) (SC : Nat → Int) (MT : Nat → Nat)
    (h : TIn w pa PB n tx L Z src KB nk ka kc wa nw W ra nr R WA RA LW CW LR KW KR SC MT) (d : TDom n L nk nw nr W R LW LR KW KR MT) :
    Calls Try.prog 11 #[.slice pa n pc, .pointer (some ⟨KB + 1 + nk, 0, none⟩), .int .i64 tx, .int .u8 2] w fun e w' => e = .returned (.tuple #[]) ∧ TOutW w w' PB n tx L Z (srcK true KW KR LW LR MT (ors (ors src W nw) R nr) nk) KB nk wa WA RA LW CW LR := by
  have t4 := h.ht4
  have HI : Hid (TIn w pa PB n tx L Z src KB nk ka kc wa nw W ra nr R WA RA LW CW LR KW KR SC MT) := h
  have HD : Hid (TDom n L nk nw nr W R LW LR KW KR MT) := d
  have hpb := h.hpb
  have hnk := d.hnk
  clear h d
  go_enter Try.func11, Try.ntmps11
  go_wp2_with fail
  refine (join_any (FrT n PB KB nk wa) (FrL n PB KB nk) pa PB n pc tx L Z src wa nw nw W w HI.out.hpa HD.out.hn HD.out.hnw HD.out.hL (fun hn x => x.1 hn rfl) (fun hn x => x.1 hn rfl) (fun b hb => FrT.new hpb HI.out.hsz (fun x hx => by have := HI.out.wlt x hx; have := HI.out.hsz; omega) hb) HI.out.hps HI.out.wsl HD.out.hW).mono ?_
  rintro e w1 ⟨rfl, hps1, hg1⟩
  have hL1 := (HI.out.start true).joined hpb hps1 hg1
  have t5 : w1.cell? ⟨KB + 1 + nk, 5, none⟩ = some (.slice ra nr nr) := hL1.fr.cell HI.out.ht5 ⟨fun _ => by omega, by omega⟩
  clear hps1 hg1 t4
  go_wp2_with fail
  refine (join_any (FrT n PB KB nk wa) (FrT n PB KB nk wa) pa PB n pc tx L Z _ ra nr nr R w1 HI.out.hpa HD.out.hn HD.out.hnr HD.out.hL (fun hn x => x.1 hn rfl) (fun hn x => x.1 hn rfl) (fun b hb => FrT.new hpb HI.out.hsz (fun x hx => by have := HI.out.wlt x hx; have := HI.out.hsz; omega) (Nat.le_trans hL1.fr.size hb)) hL1.ps (HI.out.hrs.fram (hL1.fr.weak (fun _ _ x => x.toL))) HD.out.hR).mono ?_
  rintro e w2 ⟨rfl, hps2, hg2⟩
  have hL2 := hL1.joined hpb hps2 hg2
  have t6 : w2.cell? ⟨KB + 1 + nk, 6, none⟩ = some (.slice ka nk kc) := hL2.fr.cell HI.out.ht6 ⟨fun _ => by omega, by omega⟩
  clear hps2 hg2 hL1 t5
  go_wp2
  go_loopg [35] nk (fun g s35 wr => ∃ i : Nat, i ≤ nk ∧ g = nk - i ∧ s35 = .int .i64 i ∧ TLp w wr PB n tx L Z (srcK true KW KR LW LR MT (ors (ors src W nw) R nr) i) KB nk wa WA RA LW CW LR SC MT true i)
  case atStart => exact ⟨0, Nat.zero_le _, rfl, rfl, hL2⟩
  case round =>
    obtain ⟨i, hi, rfl, rfl, hL⟩ := hrel
    clear hL2 t6
    by_cases hlt : i < nk
    · obtain rfl := HI.out.hka (by omega)
      have g1 : wr.cell? ⟨KB, i, none⟩ = some (.pointer (some ⟨KB + 1 + i, 0, none⟩)) := hL.fr.cell (HI.out.hkeys i hlt) ⟨fun _ => by omega, by omega⟩
      have g2 := (hL.el i hlt).kw
      go_wp2_with fail
      refine (join_any (FrT n PB KB nk wa) (FrT n PB KB nk wa) pa PB n pc tx L Z _ (WA i) (LW i) (CW i) (KW i) wr HI.out.hpa HD.out.hn (HD.out.hLW i hlt) HD.out.hL (fun hn x => x.1 hn rfl) (fun hn x => x.1 hn rfl) (fun b hb => FrT.new hpb HI.out.hsz (fun x hx => by have := HI.out.wlt x hx; have := HI.out.hsz; omega) (Nat.le_trans hL.fr.size hb)) hL.ps ((HI.out.hws i hlt).fram (hL.fr.weak (fun _ _ x => x.toL))) (HD.out.hKW i hlt)).mono ?_
      rintro e w3 ⟨rfl, hps3, hg3⟩
      have hL3 := hL.joined hpb hps3 hg3
      have g5 := (hL3.el i hlt).kr
      have g8 : w3.cell? ⟨KB + 1 + i, 8, none⟩ = some (.int .i64 (MT i : Int)) := by have := (hL3.el i hlt).met; simpa using this
      have hMT := HD.out.hMT i hlt
      have hLRi := HD.out.hLR i hlt
      have hMz : (MT i : Int) ≤ (LR i : Int) := by omega
      have hM0 : (0 : Int) ≤ (MT i : Int) := by omega
      clear hL hps3 hg3 g1 g2
      by_cases hm : MT i < LR i
      · obtain ⟨b, off, hRA, hbf, hcc⟩ := HI.out.hrrs i hlt (by omega)
        rw [hRA] at g5
        have HJ : Hid (Calls Try.prog 12 #[.slice pa n pc, .slice (some ⟨b, off + MT i, none⟩) (LR i - MT i) (LR i - MT i), .int .i64 tx] w3.drew (JoinPost (FrT n PB KB nk wa) PB n tx L Z (srcK true KW KR LW LR MT (ors (ors src W nw) R nr) (i + 1)) w3.drew)) := by
          have hsl : SlF (FrT n PB KB nk wa) w3.drew (some ⟨b, off + MT i, none⟩) (LR i - MT i) (fun j => KR i (MT i + j)) := fun _ => ⟨b, off + MT i, rfl, hbf, fun j hj => by
            rw [World.cell?_drew, Nat.add_assoc]; exact (hL3.fr.weak (fun _ _ x => x.toL)).cell (hcc (MT i + j) (by omega)) hbf⟩
          exact join_any (FrT n PB KB nk wa) (FrT n PB KB nk wa) pa PB n pc tx L Z _ _ _ _ _ w3.drew HI.out.hpa HD.out.hn (by omega) HD.out.hL (fun hn x => x.1 hn rfl) (fun hn x => x.1 hn rfl) (fun b hb => FrT.new hpb HI.out.hsz (fun x hx => by have := HI.out.wlt x hx; have := HI.out.hsz; omega) (Nat.le_trans hL3.fr.size hb)) hL3.ps.drew hsl (fun j hj => HD.out.hKR i hlt _ (by omega))
        clear hcc
        go_wp2_with fail
        go_region_with (go_at_call 12; go_fit HJ.out; rintro e w4 ⟨rfl, hps4, hg4⟩)
        all_goals
          have hL4 := hL3.joined hpb hps4 (grown_undrew hg4)
          have k5 := (hL4.el i hlt).kr
          have k7 := (hL4.el i hlt).sc
          have k8 := (hL4.el i hlt).met
          have z7 := (hL4.el i hlt).f7
          have z8 := (hL4.el i hlt).f8
          have hL5 := hL4.put hpb hlt
          clear hL3 hps4 hg4 hL4 g5 g8
          go_wp2
          go_roundg (nk - (i + 1))
          case measure => go_light; omega
          case rel => go_light; exact ⟨i + 1, by omega, rfl, by go_num, hL5⟩
      · have HM : Hid (LR i = MT i) := (by omega : LR i = MT i)
        have hm2 : MT i = LR i := by omega
        rw [hm2] at g8 hMz hM0
        clear hm hm2
        cases hRA : RA i with
        | none =>
          rw [hRA] at g5
          have HJ : Hid (Calls Try.prog 12 #[.slice pa n pc, .slice (none) 0 0, .int .i64 tx] w3.drew (JoinPost (FrT n PB KB nk wa) PB n tx L Z (srcK true KW KR LW LR MT (ors (ors src W nw) R nr) (i + 1)) w3.drew)) := by
            have hj := join_any (FrT n PB KB nk wa) (FrT n PB KB nk wa) pa PB n pc tx L Z _ (none) 0 0 (fun j => KR i (MT i + j)) w3.drew HI.out.hpa HD.out.hn (by omega) HD.out.hL (fun hn x => x.1 hn rfl) (fun hn x => x.1 hn rfl) (fun b hb => FrT.new hpb HI.out.hsz (fun x hx => by have := HI.out.wlt x hx; have := HI.out.hsz; omega) (Nat.le_trans hL3.fr.size hb)) hL3.ps.drew (SlF.zero _ _ _ _) (fun j hj => absurd hj (Nat.not_lt_zero _))
            have e1 : srcK true KW KR LW LR MT (ors (ors src W nw) R nr) (i + 1) = ors (ors (srcK true KW KR LW LR MT (ors (ors src W nw) R nr) i) (KW i) (LW i)) (fun j => KR i (MT i + j)) 0 := by
              rw [srcK, if_pos rfl, HM.out, Nat.sub_self]
            rw [e1]; exact hj
          go_wp2_with fail
          go_region_with (go_at_call 12; go_fit HJ.out; rintro e w4 ⟨rfl, hps4, hg4⟩)
          all_goals
            have hL4 := hL3.joined hpb hps4 (grown_undrew hg4)
            have k5 := (hL4.el i hlt).kr
            have k7 := (hL4.el i hlt).sc
            have k8 := (hL4.el i hlt).met
            have z7 := (hL4.el i hlt).f7
            have z8 := (hL4.el i hlt).f8
            have hL5 := hL4.put hpb hlt
            clear hL3 hps4 hg4 hL4 g5 g8
            go_wp2
            go_roundg (nk - (i + 1))
            case measure => go_light; omega
            case rel => go_light; exact ⟨i + 1, by omega, rfl, by go_num, hL5⟩
        | some x =>
          rw [hRA] at g5
          have HJ : Hid (Calls Try.prog 12 #[.slice pa n pc, .slice (some x) 0 0, .int .i64 tx] w3.drew (JoinPost (FrT n PB KB nk wa) PB n tx L Z (srcK true KW KR LW LR MT (ors (ors src W nw) R nr) (i + 1)) w3.drew)) := by
            have hj := join_any (FrT n PB KB nk wa) (FrT n PB KB nk wa) pa PB n pc tx L Z _ (some x) 0 0 (fun j => KR i (MT i + j)) w3.drew HI.out.hpa HD.out.hn (by omega) HD.out.hL (fun hn x => x.1 hn rfl) (fun hn x => x.1 hn rfl) (fun b hb => FrT.new hpb HI.out.hsz (fun x hx => by have := HI.out.wlt x hx; have := HI.out.hsz; omega) (Nat.le_trans hL3.fr.size hb)) hL3.ps.drew (SlF.zero _ _ _ _) (fun j hj => absurd hj (Nat.not_lt_zero _))
            have e1 : srcK true KW KR LW LR MT (ors (ors src W nw) R nr) (i + 1) = ors (ors (srcK true KW KR LW LR MT (ors (ors src W nw) R nr) i) (KW i) (LW i)) (fun j => KR i (MT i + j)) 0 := by
              rw [srcK, if_pos rfl, HM.out, Nat.sub_self]
            rw [e1]; exact hj
          go_wp2_with fail
          go_region_with (go_at_call 12; go_fit HJ.out; rintro e w4 ⟨rfl, hps4, hg4⟩)
          all_goals
            have hL4 := hL3.joined hpb hps4 (grown_undrew hg4)
            have k5 := (hL4.el i hlt).kr
            have k7 := (hL4.el i hlt).sc
            have k8 := (hL4.el i hlt).met
            have z7 := (hL4.el i hlt).f7
            have z8 := (hL4.el i hlt).f8
            have hL5 := hL4.put hpb hlt
            clear hL3 hps4 hg4 hL4 g5 g8
            go_wp2
            go_roundg (nk - (i + 1))
            case measure => go_light; omega
            case rel => go_light; exact ⟨i + 1, by omega, rfl, by go_num, hL5⟩
    · obtain rfl : i = nk := by omega
      have t4 : wr.cell? ⟨KB + 1 + i, 4, none⟩ = some (.slice wa nw nw) := hL.fr.cell HI.out.ht4 ⟨fun _ => by omega, by omega⟩
      have t5 : wr.cell? ⟨KB + 1 + i, 5, none⟩ = some (.slice ra nr nr) := hL.fr.cell HI.out.ht5 ⟨fun _ => by omega, by omega⟩
      have f4 : wr.frozen? ⟨KB + 1 + i, 4, none⟩ = false := by rw [hL.fr.frozen HI.out.hsz ⟨fun _ => by omega, by omega⟩]; exact HI.out.hf4
      have f5 : wr.frozen? ⟨KB + 1 + i, 5, none⟩ = false := by rw [hL.fr.frozen HI.out.hsz ⟨fun _ => by omega, by omega⟩]; exact HI.out.hf5
      have htw : (wa = none ∧ nw = 0) ∨ ∃ TW, wa = some ⟨TW, 0, none⟩ ∧ TW ≠ KB + 1 + i ∧ wr.rowIs TW 3 nw (fun i => .int .i64 (W i)) := by
        rcases HI.out.htw with x | ⟨TW, e1, e2, e3, e4⟩
        · exact .inl x
        · exact .inr ⟨TW, e1, by omega, hL.fr.row e4 ⟨fun _ => e3, by omega⟩⟩
      have HF : Hid (Calls Try.prog 13 #[.pointer (some ⟨KB + 1 + i, 4, none⟩), .int .i64 tx, .int .u8 2] wr (FolWrite (KB + 1 + i) tx wa wr)) := follows_write (KB + 1 + i) tx wa nw W ra nr wr htw t4 t5 f4 f5
      clear htw
      go_wp2_with fail
      refine HF.out.mono ?_
      rintro e w2 ⟨rfl, hf2, ho2, g, cap, ra2, rc2, hc2, hcg, hc5⟩
      have hfin : Hid (TOutW w w2 PB n tx L Z (srcK true KW KR LW LR MT (ors (ors src W nw) R nr) i) KB i wa WA RA LW CW LR) := by
        have hne : ∀ x, wa = some x → x.block ≠ PB := fun x hx => by
          rcases HI.out.htw with ⟨e1, _⟩ | ⟨TW, e1, _, e3, _⟩
          · rw [e1] at hx; cases hx
          · rw [e1] at hx; cases hx; exact e3
        have hsz := HI.out.hsz
        have hs' := hL.fr.size
        have hF : Fram (FrT n PB KB i wa) wr w2 := hf2.weak (fun k hk x => ⟨by have := x.2.2; omega, x.2.1⟩)
        refine ⟨hL.ps.fram hF (hf2.block PB (by omega) ⟨by omega, fun x hx h => hne x hx h.symm⟩), (hL.fr.weak (fun _ _ x => x.toL)).trans hF, fun j hj => ?_, g, cap, ra2, rc2, hc2, hcg, hc5⟩
        have := (hL.el j hj).block (hf2.block _ (hL.el j hj).lt ⟨by omega, fun x hx h => by have := HI.out.wlt x hx; omega⟩)
        simpa [hj] using this
      clear hL hf2 ho2 hc2 hcg hc5 t4 t5 f4 f5 HF
      go_wp2
      go_end0
      exact ⟨rfl, hfin.out⟩
end Go.Proofs.Qxb6623442a
