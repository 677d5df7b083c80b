/- The law's own walk. -/
import Derived.Test.Qxb6617515aDoorUni
namespace Go.Proofs.Qxb6617515aDoor
open Go.RowKit Go.Proofs Go.Lib
set_option linter.unusedVariables false

def LawPost (w : World) (e : Ending) (w' : World) : Prop := e = .returned (.bool true) ∧ Below w.heap.size w w'
theorem LawPost.here (w : World) : LawPost w (.returned (.bool true)) w := ⟨rfl, Below.refl _ _⟩
theorem below_drewN {B : Nat} {a w : World} (h : Below B a w) (q : Nat) : Below B a (w.drewN q) := ⟨h.os, h.tape, h.output, h.size, h.block⟩
theorem ByF.below {B : Nat} {w w' : World} {a : Option Addr} {n : Nat} {f : Nat → Int} (h : ByF w a n f) (hb : Below B w w') (hl : ∀ p, a = some p → p.block < B) : ByF w' a n f := fun hn => by
  obtain ⟨b, off, rfl, hc⟩ := h hn
  have := hl _ rfl
  exact ⟨b, off, rfl, fun i hi => by rw [hb.cell (p := ⟨b, off + i, none⟩) this]; exact hc i hi⟩
theorem clone_any (s : Option Addr) (n c : Nat) (f : Nat → Int) (w : World) (hs : s = none → n = 0 ∧ c = 0) (hn : n ≤ 65536) (hp : ∀ p, s = some p → 0 < n → p.block < w.heap.size) (hf : ByF w s n f) :
    Calls Tryd.prog 5 #[.slice s n c] w (ClPost n f w) := by
  cases s with
  | none =>
    obtain ⟨rfl, rfl⟩ := hs rfl
    exact clone_nil w f
  | some p => exact clone_some p n c f w hn (hp p rfl) hf

set_option maxHeartbeats 1000000 in
theorem law_big (s : Option Addr) (n c : Nat) (a : Int) (w : World) (hbig : 65536 < n) : Calls Tryd.prog 3 #[.int .i64 a, .slice s n c] w (LawPost w) := by
  go_enter Tryd.func3, Tryd.ntmps3
  go_wp2_with fail
  refine (bytes_any _ _ _ _ _).mono ?_
  rintro e w' ⟨bo, rfl, rfl⟩
  cases bo
  · go_wp2_with fail
    go_ret
    exact LawPost.here _
  · go_wp2_with fail
    go_ret
    exact LawPost.here _

theorem amt_len_le (a : Int) (h0 : -9223372036854775808 ≤ a) (h1 : a ≤ 9223372036854775807) : (amt a).length ≤ 24 := by
  have h := (amt_len_pos a).2
  rw [amt_len] at h
  have := nDigits_le20 (a.natAbs / 100) (by omega)
  omega

set_option maxHeartbeats 4000000 in
set_option maxRecDepth 100000 in
theorem law_main (s : Option Addr) (n c : Nat) (f : Nat → Int) (a : Int) (w : World) (h0 : -9223372036854775808 ≤ a) (h1 : a ≤ 9223372036854775807) (hn : n ≤ 65536) (hs : s = none → n = 0 ∧ c = 0) (hp : ∀ p, s = some p → 0 < n → p.block < w.heap.size) (hf : ByF w s n f)
    (htab : Lib.TabIs Tryd.prog w powN .u64 Lib.pow10Tab) (hT : Lib.TabBelow Tryd.prog w.heap.size w powN .u64 Lib.pow10Tab) :
    Calls Tryd.prog 3 #[.int .i64 a, .slice s n c] w (LawPost w) := by
  have HC1 := hid (clone_any s n c f w hs hn hp hf)
  have HS := hid hs
  have HP := hid hp
  have HF := hid hf
  have HT := hid hT
  clear hs hp hf htab hT
  obtain ⟨L, hL⟩ : ∃ L, L = (amt a).length := ⟨_, rfl⟩
  have hL4 := (amt_len_pos a).1
  have hL24 := amt_len_le a h0 h1
  rw [← hL] at hL4 hL24
  have HL := hid hL
  clear hL
  go_enter Tryd.func3, Tryd.ntmps3
  go_wp2_with fail
  refine (bytes_any _ _ _ _ _).mono ?_
  rintro e w' ⟨bo, rfl, hw⟩
  have hw' := hw.symm
  subst hw'
  clear hw
  cases bo
  · go_wp2_with fail
    go_ret
    exact LawPost.here _
  · go_wp2_with fail
    refine HC1.out.mono ?_
    rintro e w1 ⟨v1, rfl, o1, b1⟩
    obtain ⟨oa, oc, rfl, hof, hob⟩ := owns_clone o1
    have HB1 := hid b1
    have HOF := hid hof
    have HOB := hid hob
    have hs1 := b1.size
    have HC2 := hid (clone_any s n c f w1 HS.out hn (fun p hp hn0 => Nat.lt_of_lt_of_le (HP.out p hp hn0) hs1) (fun hn0 => (HF.out.below b1 (fun p hp => HP.out p hp hn0)) hn0))
    clear o1 b1 hof hob HC1
    go_wp2_with fail
    refine HC2.out.mono ?_
    rintro e w2 ⟨v2, rfl, o2, b2⟩
    have HB2 := hid (HB1.out.trans (b2.mono hs1))
    have hs2 := b2.size
    have HA := hid (append_any w1.heap.size n a h0 h1 v2 _ w2 o2 hs2 (by omega) (fun w' hb => HT.out w' (HB2.out.trans (hb.mono hs1))))
    have HOF2 := hid (HOF.out.below b2 (fun p hp => (HOB.out p hp).2))
    clear o2 b2 HC2
    go_wp2_with fail
    refine HA.out.mono ?_
    rintro e w3 ⟨v3, rfl, o3, b3⟩
    have hs3 := b3.size
    obtain ⟨g, cap, rfl, hgB, hgl, hgc, hgm, hcell⟩ := owns_open o3 (by have := HL.out; omega)
    have HB3 := hid (HB2.out.trans (b3.mono hs1))
    have HOF3 := hid (HOF2.out.below b3 (fun p hp => (HOB.out p hp).2))
    rw [← HL.out] at hgc
    have HCELL := hid hcell
    have HPX := hid (prefix_any (some ⟨g, 0, none⟩) oa (n + (amt a).length) n cap oc (cat n f (amt a)) f w3 (by have := HL.out; omega) (by have := HL.out; omega) hgm (by omega) (fun _ => ⟨g, 0, rfl, fun i hi => by rw [Nat.zero_add]; exact hcell i hi⟩) HOF3.out (fun i hi => by unfold cat; rw [if_pos hi]))
    clear o3 b3 hcell HA
    rw [← HL.out] at HPX ⊢
    go_wp2_with fail
    refine HPX.out.mono ?_
    rintro e w4 ⟨rfl, q4, hw4⟩
    have HB4 : Hid (Below w.heap.size w w4) := by rw [hw4]; exact below_drewN HB3.out q4
    have HCELL4 : Hid (∀ j, j < n + L → w4.cell? ⟨g, j, none⟩ = some (.int .u8 (cat n f (amt a) j))) := fun j hj => by rw [hw4]; exact HCELL.out j (by rw [← HL.out]; exact hj)
    have HOF4 : Hid (ByF w4 oa n f) := by rw [hw4]; exact HOF3.out
    have hs4 : w4.heap.size = w3.heap.size := by rw [hw4]; rfl
    have HPA := hid (parse_amt g n (cap - n) a w4 h0 h1 (fun i hi => by
      have := HCELL4.out (n + i) (by rw [HL.out]; omega)
      rw [this]; unfold cat; rw [if_neg (by omega), Nat.add_sub_cancel_left]))
    rw [← HL.out] at HPA
    have hs4' : w3.heap.size ≤ w4.heap.size := by omega
    have hgl4 : g < w4.heap.size := by omega
    have hcn : ¬ cap = n := by omega
    clear hw4 hs4 HPX HCELL HOF3 HB3
    go_wp2_with fail
    refine HPA.out.mono ?_
    rintro e w5 ⟨rfl, q5, hw5⟩
    have HB5 : Hid (Below w.heap.size w w5) := by rw [hw5]; exact below_drewN HB4.out q5
    have HCELL5 : Hid (∀ j, j < n + L → w5.cell? ⟨g, j, none⟩ = some (.int .u8 (cat n f (amt a) j))) := fun j hj => by rw [hw5]; exact HCELL4.out j hj
    have HOF5 : Hid (ByF w5 oa n f) := by rw [hw5]; exact HOF4.out
    have hs5 : w4.heap.size ≤ w5.heap.size := by rw [hw5]; exact Nat.le_refl _
    have hna : (a != a) = false := by simp
    clear hw5 HPA HCELL4 HOF4 HB4
    by_cases hmin : a = -9223372036854775808
    · have hm' : (a == -9223372036854775808) = true := beq_iff_eq.2 hmin
      clear hmin
      go_wp2_with fail
      go_ret
      exact ⟨rfl, HB5.out⟩
    · have hm' : (a == -9223372036854775808) = false := beq_eq_false_iff_ne.2 hmin
      have hs05 := HB5.out.size
      have HC6 := hid (clone_any s n c f w5 HS.out hn (fun p hp hn0 => Nat.lt_of_lt_of_le (HP.out p hp hn0) hs05) (fun hn0 => (HF.out.below HB5.out (fun p hp => HP.out p hp hn0)) hn0))
      go_wp2_with fail
      refine HC6.out.mono ?_
      rintro e w6 ⟨v6, rfl, o6, b6⟩
      have HB6 := hid (HB5.out.trans (b6.mono hs05))
      have hs6 := b6.size
      have HA7 := hid (append_any w5.heap.size n (-a) (by omega) (by omega) v6 _ w6 o6 hs6 (by omega) (fun w' hb => HT.out w' (HB6.out.trans (hb.mono hs05))))
      have HB56 := hid b6
      clear o6 b6 HC6
      go_wp2_with fail
      refine HA7.out.mono ?_
      rintro e w7 ⟨v7, rfl, o7, b7⟩
      obtain ⟨L2, hL2⟩ : ∃ L2, L2 = (amt (-a)).length := ⟨_, rfl⟩
      have hL24' := amt_len_le (-a) (by omega) (by omega)
      have hL42 := (amt_len_pos (-a)).1
      obtain ⟨g2, cap2, rfl, hgB2, hgl2, hgc2, hgm2, hcell2⟩ := owns_open o7 (by omega)
      have HL2 := hid hL2
      have hs7 := b7.size
      have HB7 := hid (HB6.out.trans (b7.mono hs05))
      have b57 := HB56.out.trans b7
      have HOF7 := hid (HOF5.out.below b57 (fun p hp => by have := (HOB.out p hp).2; omega))
      have HCELL7 : Hid (∀ j, j < n + L → w7.cell? ⟨g, j, none⟩ = some (.int .u8 (cat n f (amt a) j))) := fun j hj => by
        rw [b57.cell (p := ⟨g, j, none⟩) (by show g < w5.heap.size; omega)]; exact HCELL5.out j hj
      have HPX7 := hid (prefix_any (some ⟨g2, 0, none⟩) oa (n + (amt (-a)).length) n cap2 oc (cat n f (amt (-a))) f w7 (by omega) (by omega) hgm2 (by omega) (fun _ => ⟨g2, 0, rfl, fun i hi => by rw [Nat.zero_add]; exact hcell2 i hi⟩) HOF7.out (fun i hi => by unfold cat; rw [if_pos hi]))
      have HCELL2 := hid hcell2
      rw [← hL2] at hgc2 hL24' hL42 HPX7 ⊢
      clear o7 b7 hcell2 b57 hL2 HA7
      go_wp2_with fail
      refine HPX7.out.mono ?_
      rintro e w8 ⟨rfl, q8, hw8⟩
      have HB8 : Hid (Below w.heap.size w w8) := by rw [hw8]; exact below_drewN HB7.out q8
      have HT8 : Hid (∀ i, i < L → w8.cell? ⟨g, n + i, none⟩ = some (.int .u8 (bval (amt a) i))) := fun i hi => by
        have := HCELL7.out (n + i) (by omega)
        rw [hw8]
        refine this.trans ?_
        unfold cat; rw [if_neg (by omega), Nat.add_sub_cancel_left]
      have HU8 : Hid (∀ i, i < L2 → w8.cell? ⟨g2, n + i, none⟩ = some (.int .u8 (bval (amt (-a)) i))) := fun i hi => by
        have := HCELL2.out (n + i) (by rw [← HL2.out]; omega)
        rw [hw8]
        refine this.trans ?_
        unfold cat; rw [if_neg (by omega), Nat.add_sub_cancel_left]
      have hcn2 : ¬ cap2 = n := by omega
      clear hw8 HPX7 HCELL7 HCELL2 HOF7 HB7 HCELL5 HOF5
      by_cases hpos : 0 < a
      · have eA : amt (-a) = 45 :: amt a := by
          obtain ⟨u, rfl⟩ : ∃ u : Nat, a = (u : Int) := ⟨a.toNat, by omega⟩
          exact amt_neg u (by omega)
        obtain rfl : L2 = L + 1 := by rw [HL2.out, HL.out, eA]; rfl
        have HMI := hid (minus_any (some ⟨g2, n, none⟩) (some ⟨g, n, none⟩) L (cap2 - n) (cap - n) (bval (amt (-a))) (bval (amt a)) w8 (by omega) (by omega) (by omega) (by omega) (fun _ => ⟨g2, n, rfl, HU8.out⟩) (fun _ => ⟨g, n, rfl, HT8.out⟩) (by rw [eA]; rfl) (fun i hi => by rw [eA]; unfold bval; rw [List.getD_cons_succ]))
        clear eA
        go_wp2_with fail
        refine HMI.out.mono ?_
        rintro e w9 ⟨rfl, q9, hw9⟩
        have HB9 : Hid (Below w.heap.size w w9) := by rw [hw9]; exact below_drewN HB8.out q9
        clear hw9 HMI
        go_wp2_with fail
        go_ret
        exact ⟨rfl, HB9.out⟩
      · by_cases hneg : a < 0
        · have eA : amt a = 45 :: amt (-a) := by
            obtain ⟨u, rfl⟩ : ∃ u : Nat, a = -(u : Int) := ⟨a.natAbs, by omega⟩
            rw [Int.neg_neg]
            exact amt_neg u (by omega)
          obtain rfl : L = L2 + 1 := by rw [HL2.out, HL.out, eA]; rfl
          have HMI := hid (minus_any (some ⟨g, n, none⟩) (some ⟨g2, n, none⟩) L2 (cap - n) (cap2 - n) (bval (amt a)) (bval (amt (-a))) w8 (by omega) (by omega) (by omega) (by omega) (fun _ => ⟨g, n, rfl, HT8.out⟩) (fun _ => ⟨g2, n, rfl, HU8.out⟩) (by rw [eA]; rfl) (fun i hi => by rw [eA]; unfold bval; rw [List.getD_cons_succ]))
          clear eA
          go_wp2_with fail
          refine HMI.out.mono ?_
          rintro e w9 ⟨rfl, q9, hw9⟩
          have HB9 : Hid (Below w.heap.size w w9) := by rw [hw9]; exact below_drewN HB8.out q9
          clear hw9 HMI
          go_wp2_with fail
          go_ret
          exact ⟨rfl, HB9.out⟩
        · have ha0 : a = 0 := by omega
          have eA : amt (-a) = amt a := by rw [ha0]; rfl
          obtain rfl : L2 = L := by rw [HL2.out, HL.out, eA]
          have HMI := hid (eq_any (some ⟨g, n, none⟩) (some ⟨g2, n, none⟩) L2 (cap - n) (cap2 - n) (bval (amt a)) (bval (amt (-a))) w8 (by omega) (fun _ => ⟨g, n, rfl, HT8.out⟩) (fun _ => ⟨g2, n, rfl, HU8.out⟩) (fun i hi => by rw [eA]))
          clear eA ha0
          go_wp2_with fail
          refine HMI.out.mono ?_
          rintro e w9 ⟨rfl, q9, hw9⟩
          have HB9 : Hid (Below w.heap.size w w9) := by rw [hw9]; exact below_drewN HB8.out q9
          clear hw9 HMI
          go_wp2_with fail
          go_ret
          exact ⟨rfl, HB9.out⟩
end Go.Proofs.Qxb6617515aDoor
