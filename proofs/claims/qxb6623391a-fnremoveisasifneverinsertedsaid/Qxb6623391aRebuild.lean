/- zzRebuildWithout. -/
import Derived.Test.Qxb6623391aPrem
namespace Go.Proofs.Qxb6623391a
open Go.RowKit
set_option linter.unusedVariables false

/-- What the fresh table holds at place s of the field f (hash or number) when the places up to t have been gone through. -/
def mkOf (f : Nat → Int) (N e : Nat) (H S : Nat → Int) (r t s : Nat) : Int := Pl.mk (fun x => f (P N e x)) (kkOf N e H) (ocOf N e S) r t s
def dstOf (N e : Nat) (H S : Nat → Int) (r t : Nat) : Nat := Pl.dest (kkOf N e H) (ocOf N e S) r (t - 1)

/-- The two rows hold the fresh table, gone through up to t. -/
def Tab (N e : Nat) (H S : Nat → Int) (r t : Nat) (mh mn : Nat → Int) : Prop :=
  ∀ s, 1 ≤ s → s ≤ N → mh (P N e s) = mkOf H N e H S r t s ∧ mn (P N e s) = mkOf S N e H S r t s

section
variable {N e r : Nat} {H S : Nat → Int} {mh mn : Nat → Int}

theorem Tab.start (L : Pl.Lin N r (kkOf N e H) (ocOf N e S)) (hN : 1 ≤ N) (h1 : ∀ j, j < N → mh j = if S j = 0 then H j else 0) (h2 : ∀ j, j < N → mn j = 0) : Tab N e H S r 0 mh mn := by
  intro s hs1 hs2
  have hp := P_lt hN e s
  unfold mkOf
  rw [Pl.mk_start _ s hs1, Pl.mk_start _ s hs1, h1 _ hp, h2 _ hp]
  by_cases ho : S (P N e s) = 0
  · rw [if_pos ho, ocOf_false.2 ho]; simp [ho]
  · rw [if_neg ho, ocOf_true.2 ho]; simp

theorem Tab.empty {t : Nat} (h : Tab N e H S r (t - 1) mh mn) (ht : 1 ≤ t) (ho : S (P N e t) = 0) (L : Pl.Lin N r (kkOf N e H) (ocOf N e S)) : Tab N e H S r t mh mn := by
  obtain ⟨u, rfl⟩ : ∃ u, t = u + 1 := ⟨t - 1, by omega⟩
  intro s hs1 hs2
  obtain ⟨a, b⟩ := h s hs1 hs2
  rw [Nat.add_sub_cancel] at a b
  have ho' := ocOf_false.2 ho
  unfold mkOf at *
  rw [Pl.mk_skip_empty _ u ho' L, Pl.mk_skip_empty _ u ho' L]
  exact ⟨a, b⟩

theorem Tab.atr {t : Nat} (h : Tab N e H S r (t - 1) mh mn) (ht : 1 ≤ t) (ho : t = r) (L : Pl.Lin N r (kkOf N e H) (ocOf N e S)) : Tab N e H S r t mh mn := by
  obtain ⟨u, rfl⟩ : ∃ u, t = u + 1 := ⟨t - 1, by omega⟩
  intro s hs1 hs2
  obtain ⟨a, b⟩ := h s hs1 hs2
  rw [Nat.add_sub_cancel] at a b
  unfold mkOf at *
  rw [Pl.mk_skip_r _ u ho L s hs1, Pl.mk_skip_r _ u ho L s hs1]
  exact ⟨a, b⟩

theorem dst_range {t : Nat} (ht : 1 ≤ t) (htN : t ≤ N) (ho : S (P N e t) ≠ 0) (L : Pl.Lin N r (kkOf N e H) (ocOf N e S)) :
    kkOf N e H t ≤ dstOf N e H S r t ∧ dstOf N e H S r t ≤ t ∧ 1 ≤ kkOf N e H t := by
  obtain ⟨u, rfl⟩ : ∃ u, t = u + 1 := ⟨t - 1, by omega⟩
  have a := Pl.dest_range L u htN (ocOf_true.2 ho)
  have b := L.k1 (u + 1) ht htN (ocOf_true.2 ho)
  unfold dstOf
  rw [Nat.add_sub_cancel]
  omega

theorem Tab.put {t : Nat} (h : Tab N e H S r (t - 1) mh mn) (hN : 1 ≤ N) (ht : 1 ≤ t) (htN : t ≤ N) (hr : t ≠ r) (ho : S (P N e t) ≠ 0) (L : Pl.Lin N r (kkOf N e H) (ocOf N e S)) :
    Tab N e H S r t (fun j => if j = P N e (dstOf N e H S r t) then H (P N e t) else mh j) (fun j => if j = P N e (dstOf N e H S r t) then S (P N e t) else mn j) := by
  have hd := dst_range (r := r) ht htN ho L
  obtain ⟨u, rfl⟩ : ∃ u, t = u + 1 := ⟨t - 1, by omega⟩
  intro s hs1 hs2
  obtain ⟨a, b⟩ := h s hs1 hs2
  have ho' := ocOf_true.2 ho
  have ei : P N e s = P N e (dstOf N e H S r (u + 1)) ↔ s = Pl.dest (kkOf N e H) (ocOf N e S) r u := by
    refine ⟨fun h => P_inj hN e s (dstOf N e H S r (u + 1)) hs1 (by omega) hs2 (by omega) h, fun h => by unfold dstOf; rw [Nat.add_sub_cancel, h]⟩
  rw [Nat.add_sub_cancel] at a b
  unfold mkOf at *
  rw [Pl.mk_put _ u hr ho', Pl.mk_put _ u hr ho']
  by_cases e1 : s = Pl.dest (kkOf N e H) (ocOf N e S) r u
  · rw [if_pos e1, if_pos e1]
    simp [ei.2 e1]
  · have e2 : ¬ P N e s = P N e (dstOf N e H S r (u + 1)) := fun h => e1 (ei.1 h)
    rw [if_neg e1, if_neg e1]
    simp only [e2, if_false]
    exact ⟨a, b⟩

theorem Tab.full {t : Nat} (h : Tab N e H S r (t - 1) mh mn) (ht : 1 ≤ t) (htN : t ≤ N) (ho : S (P N e t) ≠ 0) (L : Pl.Lin N r (kkOf N e H) (ocOf N e S)) (s : Nat) (h1 : kkOf N e H t ≤ s) (h2 : s < dstOf N e H S r t) : mn (P N e s) ≠ 0 := by
  have hd := dst_range (r := r) ht htN ho L
  obtain ⟨u, rfl⟩ : ∃ u, t = u + 1 := ⟨t - 1, by omega⟩
  rw [(h s (by omega) (by omega)).2]
  unfold mkOf
  rw [Nat.add_sub_cancel]
  refine Pl.mk_full _ (fun x hx => ocOf_true.1 hx) L u htN (ocOf_true.2 ho) s h1 ?_
  unfold dstOf at h2
  rwa [Nat.add_sub_cancel] at h2

theorem Tab.free {t : Nat} (h : Tab N e H S r (t - 1) mh mn) (ht : 1 ≤ t) (htN : t ≤ N) (ho : S (P N e t) ≠ 0) (L : Pl.Lin N r (kkOf N e H) (ocOf N e S)) : mn (P N e (dstOf N e H S r t)) = 0 := by
  have hd := dst_range (r := r) ht htN ho L
  obtain ⟨u, rfl⟩ : ∃ u, t = u + 1 := ⟨t - 1, by omega⟩
  rw [(h (dstOf N e H S r (u + 1)) (by omega) (by omega)).2]
  unfold mkOf dstOf
  rw [Nat.add_sub_cancel]
  exact Pl.mk_free _ u (ocOf_true.2 ho)
end

/-- What the first loop has laid of the hashes, i slots looked at. -/
def fh (H S : Nat → Int) (i : Nat) : Nat → Int := fun j => if j < i ∧ S j = 0 then H j else 0
theorem fh_hit (H S : Nat → Int) (i : Nat) (h : S i = 0) (j : Nat) : (if j = i then H i else fh H S i j) = fh H S (i + 1) j := by
  unfold fh
  by_cases e : j = i
  · subst e; rw [if_pos rfl, if_pos ⟨by omega, h⟩]
  · rw [if_neg e]
    by_cases e2 : j < i ∧ S j = 0
    · rw [if_pos e2, if_pos ⟨by omega, e2.2⟩]
    · rw [if_neg e2, if_neg (fun x => e2 ⟨by omega, x.2⟩)]
theorem fh_miss (H S : Nat → Int) (i : Nat) (h : S i ≠ 0) (j : Nat) : fh H S i j = fh H S (i + 1) j := by
  unfold fh
  by_cases e2 : j < i ∧ S j = 0
  · rw [if_pos e2, if_pos ⟨by omega, e2.2⟩]
  · rw [if_neg e2, if_neg]
    rintro ⟨a, b⟩
    by_cases e : j = i
    · subst e; exact h b
    · exact e2 ⟨by omega, b⟩

def LE (S : Nat → Int) (i : Nat) (e : Int) : Prop := (e = -1 ∧ ∀ j, j < i → S j ≠ 0) ∨ (∃ e' : Nat, e = e' ∧ e' < i ∧ S e' = 0 ∧ ∀ j, j < e' → S j ≠ 0)

structure Reb (N e0 r B : Nat) (H S : Nat → Int) (t : Nat) (w wr : World) : Prop where
  rows : ∃ mh mn, Row wr B N mh ∧ Row wr (B + 1) N mn ∧ Tab N e0 H S r t mh mn
  below : Below B w wr
  size : wr.heap.size = B + 2

set_option maxHeartbeats 1000000 in
set_option maxRecDepth 100000 in
theorem rebuild_any (b0 o0 c0 b1 o1 c1 N e0 r : Nat) (H S : Nat → Int) (h n : Int) (w : World) (hN : N ≤ 4096) (hg : Good N e0 H S h n) (L : Pl.Lin N r (kkOf N e0 H) (ocOf N e0 S)) (hr1 : S (P N e0 r) = n) (hru : ∀ t, 1 ≤ t → t ≤ N → S (P N e0 t) = n → t = r)
    (hb0 : b0 < w.heap.size) (hb1 : b1 < w.heap.size)
    (hH : ∀ i, i < N → w.cell? ⟨b0, o0 + i, none⟩ = some (.int .u32 (H i))) (hS : ∀ i, i < N → w.cell? ⟨b1, o1 + i, none⟩ = some (.int .u32 (S i))) :
    Calls Try.prog 7 #[.slice (some ⟨b0, o0, none⟩) N c0, .slice (some ⟨b1, o1, none⟩) N c1, .int .u32 n] w fun e w' => e = .returned (.tuple #[.slice (some ⟨w.heap.size, 0, none⟩) N N, .slice (some ⟨w.heap.size + 1, 0, none⟩) N N]) ∧ Reb N e0 r w.heap.size H S N w w' := by
  have hN1 := hg.one
  have HM : Hid ((∀ x : Int, bits .and .i64 x ((N : Int) - 1) = x % (N : Int)) ∧ (∀ x : Int, bits .and .u32 x ((N : Int) - 1) = x % (N : Int))) := by
    obtain ⟨m, hm31, hpow⟩ := hg.pow
    rw [hpow]; exact ⟨mask_i64 m hm31, mask_u32 m hm31⟩
  have HG : Hid (Good N e0 H S h n) := hg
  have HL : Hid (Pl.Lin N r (kkOf N e0 H) (ocOf N e0 S)) := L
  have HU : Hid (S (P N e0 r) = n ∧ ∀ t, 1 ≤ t → t ≤ N → S (P N e0 t) = n → t = r) := ⟨hr1, hru⟩
  clear hg L hr1 hru
  have hmk := run_make_row' (P := Try.prog) 22 23 (.int .u32 0) 4 Try.underlying22 Try.info23 rfl .i64 .i64 N (by omega) (by omega)
  go_enter Try.func7, Try.ntmps7
  go_wp2
  clear hmk
  go_loopg [12, 13] N (fun g s12 s13 wr => ∃ (i : Nat) (e : Int), i ≤ N ∧ g = N - i ∧ s12 = .int .i64 e ∧ s13 = .int .i64 i ∧ LE S i e ∧ Row wr w.heap.size N (fh H S i) ∧ Row wr (w.heap.size + 1) N (fun _ => 0) ∧ Below w.heap.size w wr ∧ wr.heap.size = w.heap.size + 2)
  case atStart =>
    refine ⟨0, -1, Nat.zero_le _, rfl, rfl, rfl, .inl ⟨rfl, fun j hj => absurd hj (Nat.not_lt_zero _)⟩, ((Row.made w N).alloc _).congr (fun _ _ => by simp [fh]), ?_, ((Below.refl _ _).alloc (Nat.le_refl _) _).alloc (by simp) _, by simp⟩
    have := Row.made (w.alloc (.cells (madeCells #[.int .u32 0] N) 23)) N
    simpa using this
  case round =>
    obtain ⟨i, e, hi, rfl, rfl, rfl, hE, hR1, hR2, hB, hsz⟩ := hrel
    by_cases hlt : i < N
    · have g1 : wr.cell? ⟨b1, o1 + i, none⟩ = some (.int .u32 (S i)) := by rw [hB.cell (p := ⟨b1, o1 + i, none⟩) hb1]; exact hS i hlt
      have g0 : wr.cell? ⟨b0, o0 + i, none⟩ = some (.int .u32 (H i)) := by rw [hB.cell (p := ⟨b0, o0 + i, none⟩) hb0]; exact hH i hlt
      have g2 := hR1.cell hlt
      have g3 := hR1.frozen i
      by_cases t1 : S i = 0
      · have t1' : (S i == 0) = true := beq_iff_eq.2 t1
        have T1 : Hid (S i = 0) := t1
        have HR := (hR1.set i (H i)).congr (fun j _ => fh_hit H S i t1 j)
        have HR2 : Row (wr.setCell ⟨w.heap.size, i, none⟩ (.int .u32 (H i))) (w.heap.size + 1) N (fun _ => 0) := hR2.other (by show w.heap.size + 1 ≠ w.heap.size; omega) _
        have HRR : Hid (Row (wr.setCell ⟨w.heap.size, i, none⟩ (.int .u32 (H i))) w.heap.size N (fh H S (i + 1)) ∧ Row (wr.setCell ⟨w.heap.size, i, none⟩ (.int .u32 (H i))) (w.heap.size + 1) N (fun _ => 0)) := ⟨HR, HR2⟩
        clear t1 hR1 hR2 HR HR2
        by_cases t2 : e < 0
        · go_wp2
          go_roundg (N - (i + 1))
          case measure => go_light; omega
          case rel =>
            go_light
            refine ⟨i + 1, _, by omega, rfl, rfl, by go_num, .inr ⟨i, rfl, by omega, T1.out, ?_⟩, HRR.out.1, HRR.out.2, hB.setCell (Nat.le_refl _) _, by simp [hsz]⟩
            rcases hE with ⟨a, b⟩ | ⟨e', a, b, c, d⟩
            · exact b
            · omega
        · go_wp2
          go_roundg (N - (i + 1))
          case measure => go_light; omega
          case rel => go_light; exact ⟨i + 1, _, by omega, rfl, rfl, by go_num, L1.keepE (.inr (by omega)) hE, HRR.out.1, HRR.out.2, hB.setCell (Nat.le_refl _) _, by simp [hsz]⟩
      · have t1' : (S i == 0) = false := beq_eq_false_iff_ne.2 t1
        have HR := hR1.congr (fun j _ => fh_miss H S i t1 j)
        go_wp2
        go_roundg (N - (i + 1))
        case measure => go_light; omega
        case rel => go_light; exact ⟨i + 1, _, by omega, rfl, rfl, by go_num, L1.keepE (.inl t1) hE, HR, hR2, hB, hsz⟩
    · obtain rfl : i = N := by omega
      obtain rfl : e = (e0 : Int) := by
        rcases hE with ⟨_, b⟩ | ⟨e', a, b, c, d⟩
        · exact absurd HG.out.hSe (b e0 HG.out.he)
        · rw [a, first_eq HG.out c d]
      have hT : Reb i e0 r w.heap.size H S 0 w wr := ⟨⟨_, _, hR1, hR2, Tab.start HL.out hN1 (fun j hj => by unfold fh; by_cases x : S j = 0 <;> simp [x, hj]) (fun _ _ => rfl)⟩, hB, hsz⟩
      have he0 := HG.out.he
      clear hE hR1 hR2 hB hsz
      go_wp2
      go_loopg [14] i (fun g s14 wx => ∃ t : Nat, 1 ≤ t ∧ t ≤ i + 1 ∧ g = i + 1 - t ∧ s14 = .int .i64 t ∧ Reb i e0 r w.heap.size H S (t - 1) w wx)
      case atStart => exact ⟨1, by omega, by omega, by omega, rfl, hT⟩
      case round =>
        obtain ⟨t, ht1, ht2, rfl, rfl, hR⟩ := hrel
        clear hT
        by_cases hlt2 : t ≤ i
        · obtain ⟨⟨mh, mn, hR1, hR2, hT⟩, hB, hsz⟩ := hR
          have eP : bits .and .i64 ((e0 : Int) + (t : Int)) ((i : Int) - 1) = ((P i e0 t : Nat) : Int) := by rw [HM.out.1, P_cast]
          have hp := P_lt hN1 e0 t
          have g1 : wr.cell? ⟨b1, o1 + P i e0 t, none⟩ = some (.int .u32 (S (P i e0 t))) := by rw [hB.cell (p := ⟨b1, o1 + P i e0 t, none⟩) hb1]; exact hS _ hp
          have g0 : wr.cell? ⟨b0, o0 + P i e0 t, none⟩ = some (.int .u32 (H (P i e0 t))) := by rw [hB.cell (p := ⟨b0, o0 + P i e0 t, none⟩) hb0]; exact hH _ hp
          by_cases u1 : S (P i e0 t) = 0
          · have u1' : (S (P i e0 t) == 0) = true := beq_iff_eq.2 u1
            have HT : Hid (Reb i e0 r w.heap.size H S t w wr) := ⟨⟨mh, mn, hR1, hR2, hT.empty ht1 u1 HL.out⟩, hB, hsz⟩
            clear u1 hR1 hR2 hB hT
            go_wp2
            go_roundg (i + 1 - (t + 1))
            case measure => go_light; omega
            case rel => go_light; exact ⟨t + 1, by omega, by omega, rfl, by go_num, HT.out⟩
          · have u1' : (S (P i e0 t) == 0) = false := beq_eq_false_iff_ne.2 u1
            by_cases u2 : S (P i e0 t) = n
            · have u2' : (S (P i e0 t) == n) = true := beq_iff_eq.2 u2
              have HT : Hid (Reb i e0 r w.heap.size H S t w wr) := ⟨⟨mh, mn, hR1, hR2, hT.atr ht1 (HU.out.2 t ht1 hlt2 u2) HL.out⟩, hB, hsz⟩
              clear u2 hR1 hR2 hB hT
              go_wp2
              go_roundg (i + 1 - (t + 1))
              case measure => go_light; omega
              case rel => go_light; exact ⟨t + 1, by omega, by omega, rfl, by go_num, HT.out⟩
            · have u2' : (S (P i e0 t) == n) = false := beq_eq_false_iff_ne.2 u2
              have hrne : t ≠ r := fun x => u2 (by rw [x]; exact HU.out.1)
              have eK : bits .and .u32 (H (P i e0 t)) ((i : Int) - 1) = ((P i e0 (kkOf i e0 H t) : Nat) : Int) := by
                rw [HM.out.2, ← hm_cast hN1, home hN1 e0 H t (by have := (HG.out.run t ht1 hlt2 u1).1; omega)]
                rfl
              have hd := dst_range (r := r) ht1 hlt2 u1 HL.out
              have hpk := P_lt hN1 e0 (kkOf i e0 H t)
              go_wp2
              go_loopg [16, 17] (dstOf i e0 H S r t - kkOf i e0 H t) (fun g s16 s17 wx => wx = wr ∧ ∃ s : Nat, kkOf i e0 H t ≤ s ∧ s ≤ dstOf i e0 H S r t ∧ g = dstOf i e0 H S r t - s ∧ s16 = .int .i64 (P i e0 s) ∧ s17 = .int .i64 ((s - kkOf i e0 H t : Nat) : Int))
              case atStart => exact ⟨rfl, kkOf i e0 H t, Nat.le_refl _, hd.1, rfl, rfl, by simp⟩
              case round =>
                obtain ⟨rfl, s, hs1, hs2, rfl, rfl, rfl⟩ := hrel
                have hps := P_lt hN1 e0 s
                have g4 := hR2.cell hps
                by_cases hlt3 : s < dstOf i e0 H S r t
                · have v1 : (mn (P i e0 s) != 0) = true := bne_iff_ne.2 (hT.full ht1 hlt2 u1 HL.out s hs1 hlt3)
                  have eQ : bits .and .i64 ((P i e0 s : Int) + 1) ((i : Int) - 1) = ((P i e0 (s + 1) : Nat) : Int) := by rw [HM.out.1, P_succ hN1, Int.natCast_emod]; simp
                  go_wp2
                  go_roundg (dstOf i e0 H S r t - (s + 1))
                  case measure => go_light; omega
                  case rel => go_light; exact ⟨rfl, s + 1, by omega, by omega, rfl, rfl, by go_num⟩
                · obtain rfl : s = dstOf i e0 H S r t := by omega
                  have v1 : (mn (P i e0 (dstOf i e0 H S r t)) != 0) = false := by rw [hT.free ht1 hlt2 u1 HL.out]; rfl
                  have hsl : ((dstOf i e0 H S r t - kkOf i e0 H t : Nat) : Int) < (i : Int) := by omega
                  have g5 := hR1.cell hps
                  have g6 := hR1.frozen (P i e0 (dstOf i e0 H S r t))
                  have g7 := hR2.frozen (P i e0 (dstOf i e0 H S r t))
                  have g8 : ∀ v, (wr.setCell ⟨w.heap.size, P i e0 (dstOf i e0 H S r t), none⟩ v).cell? ⟨b1, o1 + P i e0 t, none⟩ = some (.int .u32 (S (P i e0 t))) := fun v => by
                    rw [World.cell?_setCell_other _ _ _ _ (fun e => by have := congrArg Addr.block e; simp at this; omega)]; exact g1
                  have g9 : ∀ v, (wr.setCell ⟨w.heap.size, P i e0 (dstOf i e0 H S r t), none⟩ v).cell? ⟨w.heap.size + 1, P i e0 (dstOf i e0 H S r t), none⟩ = some (.int .u32 (mn (P i e0 (dstOf i e0 H S r t)))) := fun v => by
                    rw [World.cell?_setCell_other _ _ _ _ (fun e => by have := congrArg Addr.block e; simp at this)]; exact g4
                  have HT : Hid (Reb i e0 r w.heap.size H S t w ((wr.setCell ⟨w.heap.size, P i e0 (dstOf i e0 H S r t), none⟩ (.int .u32 (H (P i e0 t)))).setCell ⟨w.heap.size + 1, P i e0 (dstOf i e0 H S r t), none⟩ (.int .u32 (S (P i e0 t))))) :=
                    ⟨⟨_, _, (hR1.set _ _).other (by show w.heap.size ≠ w.heap.size + 1; omega) _, (hR2.other (by show w.heap.size + 1 ≠ w.heap.size; omega) _).set _ _, hT.put hN1 ht1 hlt2 hrne u1 HL.out⟩, (hB.setCell (Nat.le_refl _) _).setCell (by show w.heap.size ≤ w.heap.size + 1; omega) _, by simp [hsz]⟩
                  clear hR1 hR2 hB hT
                  go_wp2
                  go_roundg (i + 1 - (t + 1))
                  case measure => go_light; omega
                  case rel => go_light; exact ⟨t + 1, by omega, by omega, rfl, by go_num, HT.out⟩
        · obtain rfl : t = i + 1 := by omega
          go_wp2
          go_ret2
          exact ⟨rfl, hR⟩
end Go.Proofs.Qxb6623391a
