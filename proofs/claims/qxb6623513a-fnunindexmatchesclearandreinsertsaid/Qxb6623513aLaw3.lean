/- FnUnindexMatchesClearAndReinsert: the walk. -/
import Derived.Test.Qxb6623513aLaw3S
namespace Go.Proofs.Qxb6623513a
open Go.RowKit
set_option linter.unusedVariables false

set_option maxHeartbeats 4000000 in
set_option maxRecDepth 100000 in
theorem law3_some (p : Addr) (nk kc b off N c : Nat) (cell : Int) (K0 K1 I : Nat → Int) (w : World) (hnk : nk ≤ 65536) (hN : N ≤ 4096) (hsum : nk * 16 + N * 4 ≤ 1048576) (hN1 : 1 ≤ N) (hand : bits .and .i64 (N : Int) ((N : Int) - 1) = 0)
    (hkc : KeysP w p nk K0 K1) (hI : IdxF w b off N I) (hb : b < w.heap.size) (hr : ∀ i, i < N → 0 ≤ I i ∧ I i < 4294967296) :
    Calls Try.prog 3 #[.slice (some p) nk kc, .slice (some ⟨b, off, none⟩) N c, .int .i64 cell] w (LawPost w) := by
  have hk : KeysF w (some p) nk K0 K1 := fun hn => by
    obtain ⟨kb, ko, rfl, _, h⟩ := hkc hn
    exact ⟨kb, ko, rfl, h⟩
  have h22 := make22 nk hnk
  have HKC := hid hkc
  obtain ⟨m, hm31, hpow⟩ := pow_of_and N hN1 (by omega) hand
  have HM := hid (Mask.of hm31 hpow)
  have HD := hid (dom_any (some p) nk kc b off N c cell K0 K1 I w HM.out hand hN1 hN hnk hk hI hr)
  have HI := hid hI
  have HR := hid hr
  clear hpow hand hI hr hk hkc
  go_enter Try.func3, Try.ntmps3
  go_wp2_with fail
  refine (bytes5_any _ _ _ _ _ _ _ _).mono ?_
  rintro e w' ⟨bo, rfl, hw⟩
  have hw' := hw.symm
  subst hw'
  clear hw
  cases bo
  · go_wp2_with fail
    go_ret
    exact LawPost.here _
  · go_wp2_with fail
    refine HD.out.mono ?_
    rintro e w2 ⟨bo, rfl, hw2, hbo⟩
    have hw2' := hw2.symm
    subst hw2'
    clear hw2 HD
    cases bo
    · go_wp2_with fail
      go_ret
      exact LawPost.here _
    · obtain ⟨hc0, hc1, hwf⟩ := hbo rfl
      obtain ⟨q, rfl⟩ := Int.eq_ofNat_of_zero_le hc0
      obtain ⟨e0, r, he, hIe, hrN, hP, L⟩ := hwf.places q (by omega)
      have hP' := hP.symm
      subst hP'
      have HW := hid hwf
      have HL := hid L
      have HIe := hid hIe
      have hpq : ((P N e0 r : Nat) : Int) < (N : Int) := hc1
      clear hbo hwf L hIe hP hc0 hc1
      obtain ⟨wX, hrun, hP, hB, hsz⟩ := copy_pairs w.heap.size nk kc p 3 K0 K1 _ _ _ (Prs.made2 w nk) (fun hn => by
        obtain ⟨kb, ko, rfl, hkb, h⟩ := HKC.out hn
        refine ⟨kb, ko, rfl, fun i hi => ?_⟩
        rw [World.cell?_alloc_old _ _ _ (by show kb ≠ w.heap.size; omega), World.cell?_alloc_old _ _ _ (by show kb ≠ w.heap.size; omega)]
        exact h i hi)
      rw [World.size_alloc] at hsz
      have HKX := hid hP.keys
      have hkl := hid (show ∀ p, (some ⟨w.heap.size, 0, none⟩ : Option Addr) = some p → p.block < wX.heap.size from fun p hp => by cases hp; show w.heap.size < _; omega)
      have HBX : Hid (Below w.heap.size w wX) := ((Below.refl _ _).alloc (Nat.le_refl _) _).trans hB
      clear hP hB HKC hsz
      have hIX : IdxF wX b off N I := fun i hi => by rw [HBX.out.cell (p := ⟨b, off + i, none⟩) hb]; exact HI.out i hi
      have hbX : b < wX.heap.size := Nat.lt_of_lt_of_le hb HBX.out.size
      have HCL := hid (clone_some b off N c I wX hN hbX hIX)
      have hwx := HBX.out.size
      clear hIX
      go_wp2_with fail
      --STOP1
      clear h22 hrun
      refine HCL.out.mono ?_
      rintro e w3 ⟨rfl, hR3, hB3, hs3⟩
      have HK3 := hid (HKX.out.below hB3 hkl.out)
      have hkl3 := hid (show ∀ p : Addr, (some ⟨w.heap.size, 0, none⟩) = some p → p.block < w3.heap.size from fun p hp => by have := hkl.out p hp; omega)
      have HRE := hid (reinsert_any (some ⟨w.heap.size, 0, none⟩) nk nk wX.heap.size 0 N N e0 r K0 K1 I w3 HM.out hN hnk HW.out he HIe.out hrN HL.out HK3.out hkl3.out hR3.idx (by omega))
      have HR3 := hid hR3
      have HB3 := hid (HBX.out.trans (hB3.mono hwx))
      clear hR3 hB3 HCL
      go_wp2_with fail
      --STOP2
      refine HRE.out.mono ?_
      rintro e w4 ⟨rfl, hB4, hs4, rr, cc, hR4, hF4, hS4⟩
      --STOPa
      rw [hs3] at hR4 hs4 ⊢
      --STOPb
      have HK4 := hid (HK3.out.below hB4 hkl3.out)
      have HZZ := hid (zz_any (some ⟨w.heap.size, 0, none⟩) nk nk wX.heap.size N e0 r K0 K1 I w4 HM.out hN hnk HW.out he HIe.out hrN HL.out HK4.out (fun p hp => by have := hkl.out p hp; omega) (HR3.out.below hB4 (by omega)))
      have HR4 := hid hR4
      have HF4 := hid hF4
      have HS4 := hid hS4
      have HB4 := hid (HB3.out.trans (hB4.mono (by omega)))
      --STOPc
      clear hB4 hR4 hF4 hS4 HRE HR3 HK3
      go_wp2_with fail
      --STOP3
      refine HZZ.out.mono ?_
      rintro e w5 ⟨rfl, hR5, hP5, hs5, ix, c5, hT5, hF5, hS5⟩
      have HSAME := hid (Clr.same he hF5 HF4.out hS5 HS4.out)
      have hrr := hid (show Row w5 (wX.heap.size + 1) N rr from World.rowIs.of_block HR4.out (hR5.rest _ (by omega) (by omega)))
      have HK5 := hid (HK4.out.rst hR5 (fun p hp => by have := hkl.out p hp; omega))
      have HB5 := hid (HB4.out.trans (hR5.below.mono hwx))
      have HT5 := hid hT5
      rw [hs4] at hP5 ⊢
      have HP5 := hid hP5
      clear hR5 hP5 hT5 hF5 hS5 HF4 HS4 HR4 HZZ HK4 HB4 HB3
      --STOP4
      go_wp2_with fail
      --STOP5
      go_loopg [11] N (fun g s11 wx => ∃ k : Nat, k ≤ N ∧ g = N - k ∧ s11 = .int .i64 k ∧ Row wx wX.heap.size N ix ∧ Row wx (wX.heap.size + 1) N ix ∧ KeysF wx (some ⟨w.heap.size, 0, none⟩) nk K0 K1 ∧ Prs 2 wx (wX.heap.size + 1 + 1 + 2) 31 nk K0 K1 ∧ Below w.heap.size w wx)
      case atStart => exact ⟨0, Nat.zero_le _, rfl, rfl, HT5.out, hrr.out.congr (fun i hi => (HSAME.out i hi).symm), HK5.out, HP5.out, HB5.out⟩
      case round =>
        obtain ⟨k, hk, rfl, rfl, q1, q2, q3, q4, qb⟩ := hrel
        have Q3 := hid q3
        have Q4 := hid q4
        have QB := hid qb
        clear HT5 hrr HK5 HP5 HB5 HSAME q3 q4 qb
        by_cases hlt : k < N
        · have g1 := q1.cell hlt
          have g2 := q2.cell hlt
          have hltz : (k : Int) < (N : Int) := by omega
          have hd1 : (ix k != ix k) = false := by simp
          have Q1 := hid q1
          have Q2 := hid q2
          clear q1 q2
          go_wp2_with fail
          --STOP6
          go_quiet (fail)
          go_wp2_with fail
          go_roundg (N - (k + 1))
          case measure => go_light; omega
          case rel => go_light; exact ⟨k + 1, by omega, rfl, by go_num, Q1.out.drewN _, Q2.out.drewN _, Q3.out, Q4.out.drewN _, below_drewN QB.out _⟩
        · obtain rfl : N = k := by omega
          clear q1 q2
          go_wp2_with fail
          --STOP7
          go_loopg [12] nk (fun g s12 wx => ∃ j : Nat, j ≤ nk ∧ g = nk - j ∧ s12 = .int .i64 j ∧ KeysF wx (some ⟨w.heap.size, 0, none⟩) nk K0 K1 ∧ Prs 2 wx (wX.heap.size + 1 + 1 + 2) 31 nk K0 K1 ∧ Below w.heap.size w wx)
          case atStart => exact ⟨0, Nat.zero_le _, rfl, rfl, Q3.out, Q4.out, QB.out⟩
          case round =>
            obtain ⟨j, hj, rfl, rfl, q3, q4, qb⟩ := hrel
            have Q3 := hid q3
            have Q4 := hid q4
            have QB := hid qb
            clear q3 q4 qb
            by_cases hlt : j < nk
            · obtain ⟨gb, go, hga, hcc⟩ := Q3.out (by omega)
              cases hga
              have g1 := (hcc j hlt).1
              have g2 := (hcc j hlt).2
              simp only [Nat.zero_add] at g1 g2
              have g3 := Q4.out.c0 (.inl rfl) hlt
              have g4 := Q4.out.c1 (.inl rfl) hlt
              have hltz : (j : Int) < (nk : Int) := by omega
              have hd1 : (K0 j != K0 j) = false := by simp
              have hd2 : (K1 j != K1 j) = false := by simp
              clear hcc
              go_wp2_with fail
              --STOP8
              go_quiet (fail)
              go_wp2_with fail
              go_roundg (nk - (j + 1))
              case measure => go_light; omega
              case rel => go_light; exact ⟨j + 1, by omega, rfl, by go_num, Q3.out, Q4.out.drewN _, below_drewN QB.out _⟩
            · obtain rfl : j = nk := by omega
              go_wp2_with fail
              go_ret
              exact ⟨rfl, QB.out⟩

set_option maxHeartbeats 4000000 in
set_option maxRecDepth 100000 in
theorem law3_none (kc b off N c : Nat) (cell : Int) (K0 K1 I : Nat → Int) (w : World) (hN : N ≤ 4096) (hsum : 0 * 16 + N * 4 ≤ 1048576) (hN1 : 1 ≤ N) (hand : bits .and .i64 (N : Int) ((N : Int) - 1) = 0)
     (hI : IdxF w b off N I) (hb : b < w.heap.size) (hr : ∀ i, i < N → 0 ≤ I i ∧ I i < 4294967296) :
    Calls Try.prog 3 #[.slice none 0 kc, .slice (some ⟨b, off, none⟩) N c, .int .i64 cell] w (LawPost w) := by
  have hk : KeysF w none 0 K0 K1 := fun h => absurd h (Nat.lt_irrefl _)
  have hnk : 0 ≤ 65536 := by omega
  obtain ⟨m, hm31, hpow⟩ := pow_of_and N hN1 (by omega) hand
  have HM := hid (Mask.of hm31 hpow)
  have HD := hid (dom_any none 0 kc b off N c cell K0 K1 I w HM.out hand hN1 hN hnk hk hI hr)
  have HI := hid hI
  have HR := hid hr
  clear hpow hand hI hr hk 
  go_enter Try.func3, Try.ntmps3
  go_wp2_with fail
  refine (bytes5_any _ _ _ _ _ _ _ _).mono ?_
  rintro e w' ⟨bo, rfl, hw⟩
  have hw' := hw.symm
  subst hw'
  clear hw
  cases bo
  · go_wp2_with fail
    go_ret
    exact LawPost.here _
  · go_wp2_with fail
    refine HD.out.mono ?_
    rintro e w2 ⟨bo, rfl, hw2, hbo⟩
    have hw2' := hw2.symm
    subst hw2'
    clear hw2 HD
    cases bo
    · go_wp2_with fail
      go_ret
      exact LawPost.here _
    · obtain ⟨hc0, hc1, hwf⟩ := hbo rfl
      obtain ⟨q, rfl⟩ := Int.eq_ofNat_of_zero_le hc0
      obtain ⟨e0, r, he, hIe, hrN, hP, L⟩ := hwf.places q (by omega)
      have hP' := hP.symm
      subst hP'
      have HW := hid hwf
      have HL := hid L
      have HIe := hid hIe
      have hpq : ((P N e0 r : Nat) : Int) < (N : Int) := hc1
      clear hbo hwf L hIe hP hc0 hc1
      have hkl := hid (show ∀ p, (none : Option Addr) = some p → p.block < w.heap.size from fun p hp => by cases hp)
      have HKX : Hid (KeysF w none 0 K0 K1) := fun h => absurd h (Nat.lt_irrefl _)
      have HBX : Hid (Below w.heap.size w w) := Below.refl _ _
      have hIX : IdxF w b off N I := fun i hi => by rw [HBX.out.cell (p := ⟨b, off + i, none⟩) hb]; exact HI.out i hi
      have hbX : b < w.heap.size := Nat.lt_of_lt_of_le hb HBX.out.size
      have HCL := hid (clone_some b off N c I w hN hbX hIX)
      have hwx := HBX.out.size
      clear hIX
      go_wp2_with fail
      --STOP1
      skip
      refine HCL.out.mono ?_
      rintro e w3 ⟨rfl, hR3, hB3, hs3⟩
      have HK3 := hid (HKX.out.below hB3 hkl.out)
      have hkl3 := hid (show ∀ p : Addr, none = some p → p.block < w3.heap.size from fun p hp => by have := hkl.out p hp; omega)
      have HRE := hid (reinsert_any none 0 kc w.heap.size 0 N N e0 r K0 K1 I w3 HM.out hN hnk HW.out he HIe.out hrN HL.out HK3.out hkl3.out hR3.idx (by omega))
      have HR3 := hid hR3
      have HB3 := hid (HBX.out.trans (hB3.mono hwx))
      clear hR3 hB3 HCL
      go_wp2_with fail
      --STOP2
      refine HRE.out.mono ?_
      rintro e w4 ⟨rfl, hB4, hs4, rr, cc, hR4, hF4, hS4⟩
      --STOPa
      rw [hs3] at hR4 hs4 ⊢
      --STOPb
      have HK4 := hid (HK3.out.below hB4 hkl3.out)
      have HZZ := hid (zz_any none 0 kc w.heap.size N e0 r K0 K1 I w4 HM.out hN hnk HW.out he HIe.out hrN HL.out HK4.out (fun p hp => by have := hkl.out p hp; omega) (HR3.out.below hB4 (by omega)))
      have HR4 := hid hR4
      have HF4 := hid hF4
      have HS4 := hid hS4
      have HB4 := hid (HB3.out.trans (hB4.mono (by omega)))
      --STOPc
      clear hB4 hR4 hF4 hS4 HRE HR3 HK3
      go_wp2_with fail
      --STOP3
      refine HZZ.out.mono ?_
      rintro e w5 ⟨rfl, hR5, hP5, hs5, ix, c5, hT5, hF5, hS5⟩
      have HSAME := hid (Clr.same he hF5 HF4.out hS5 HS4.out)
      have hrr := hid (show Row w5 (w.heap.size + 1) N rr from World.rowIs.of_block HR4.out (hR5.rest _ (by omega) (by omega)))
      have HK5 := hid (HK4.out.rst hR5 (fun p hp => by have := hkl.out p hp; omega))
      have HB5 := hid (HB4.out.trans (hR5.below.mono hwx))
      have HT5 := hid hT5
      rw [hs4] at hP5 ⊢
      have HP5 := hid hP5
      clear hR5 hP5 hT5 hF5 hS5 HF4 HS4 HR4 HZZ HK4 HB4 HB3
      --STOP4
      go_wp2_with fail
      --STOP5
      go_loopg [11] N (fun g s11 wx => ∃ k : Nat, k ≤ N ∧ g = N - k ∧ s11 = .int .i64 k ∧ Row wx w.heap.size N ix ∧ Row wx (w.heap.size + 1) N ix ∧ KeysF wx none 0 K0 K1 ∧ Prs 2 wx (w.heap.size + 1 + 1 + 2) 31 0 K0 K1 ∧ Below w.heap.size w wx)
      case atStart => exact ⟨0, Nat.zero_le _, rfl, rfl, HT5.out, hrr.out.congr (fun i hi => (HSAME.out i hi).symm), HK5.out, HP5.out, HB5.out⟩
      case round =>
        obtain ⟨k, hk, rfl, rfl, q1, q2, q3, q4, qb⟩ := hrel
        have Q3 := hid q3
        have Q4 := hid q4
        have QB := hid qb
        clear HT5 hrr HK5 HP5 HB5 HSAME q3 q4 qb
        by_cases hlt : k < N
        · have g1 := q1.cell hlt
          have g2 := q2.cell hlt
          have hltz : (k : Int) < (N : Int) := by omega
          have hd1 : (ix k != ix k) = false := by simp
          have Q1 := hid q1
          have Q2 := hid q2
          clear q1 q2
          go_wp2_with fail
          --STOP6
          go_quiet (fail)
          go_wp2_with fail
          go_roundg (N - (k + 1))
          case measure => go_light; omega
          case rel => go_light; exact ⟨k + 1, by omega, rfl, by go_num, Q1.out.drewN _, Q2.out.drewN _, Q3.out, Q4.out.drewN _, below_drewN QB.out _⟩
        · obtain rfl : N = k := by omega
          clear q1 q2
          go_wp2_with fail
          --STOP7
          go_loopg [12] 0 (fun g s12 wx => ∃ j : Nat, j ≤ 0 ∧ g = 0 - j ∧ s12 = .int .i64 j ∧ KeysF wx none 0 K0 K1 ∧ Prs 2 wx (w.heap.size + 1 + 1 + 2) 31 0 K0 K1 ∧ Below w.heap.size w wx)
          case atStart => exact ⟨0, Nat.zero_le _, rfl, rfl, Q3.out, Q4.out, QB.out⟩
          case round =>
            obtain ⟨j, hj, rfl, rfl, q3, q4, qb⟩ := hrel
            have Q3 := hid q3
            have Q4 := hid q4
            have QB := hid qb
            clear q3 q4 qb
            by_cases hlt : j < 0
            · exact absurd hlt (Nat.not_lt_zero _)
            · obtain rfl : j = 0 := by omega
              go_wp2_with fail
              go_ret
              exact ⟨rfl, QB.out⟩

theorem law3_any (ka ia : Option Addr) (nk kc N c : Nat) (cell : Int) (K0 K1 I : Nat → Int) (w : World) (hka : ka = none → nk = 0) (hk : ∀ p, ka = some p → KeysP w p nk K0 K1)
    (hI : 1 ≤ N → ∃ b off, ia = some ⟨b, off, none⟩ ∧ b < w.heap.size ∧ IdxF w b off N I) (hr : ∀ i, i < N → 0 ≤ I i ∧ I i < 4294967296) :
    Calls Try.prog 3 #[.slice ka nk kc, .slice ia N c, .int .i64 cell] w (LawPost w) := by
  by_cases h1 : 65536 < nk
  · exact law3_big ka ia nk kc N c cell w (.inl h1)
  by_cases h2 : 4096 < N
  · exact law3_big ka ia nk kc N c cell w (.inr (.inl ⟨by omega, h2⟩))
  by_cases h3 : 1048576 < nk * 16 + N * 4
  · exact law3_big ka ia nk kc N c cell w (.inr (.inr ⟨by omega, by omega, h3⟩))
  by_cases h4 : N = 0
  · exact law3_bad ka ia nk kc N c cell w (by omega) (by omega) (by omega) (.inl h4)
  by_cases h5 : bits .and .i64 (N : Int) ((N : Int) - 1) = 0
  · obtain ⟨b, off, rfl, hb, hIx⟩ := hI (by omega)
    cases ka with
    | none =>
      obtain rfl : nk = 0 := hka rfl
      exact law3_none kc b off N c cell K0 K1 I w (by omega) (by omega) (by omega) h5 hIx hb hr
    | some p =>
      exact law3_some p nk kc b off N c cell K0 K1 I w (by omega) (by omega) (by omega) (by omega) h5 (hk p rfl) hIx hb hr
  · exact law3_bad ka ia nk kc N c cell w (by omega) (by omega) (by omega) (.inr h5)
end Go.Proofs.Qxb6623513a
