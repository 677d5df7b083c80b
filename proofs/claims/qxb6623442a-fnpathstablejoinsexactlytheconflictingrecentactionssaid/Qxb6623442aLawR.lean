/- The law's own walk, any other kind. -/
import Derived.Test.Qxb6623442aLawHead
namespace Go.Proofs.Qxb6623442a
open Go.RowKit
set_option linter.unusedVariables false

set_option maxHeartbeats 8000000 in
set_option maxRecDepth 1000000 in
theorem law_read (w : World) (a0 a1 a2 a3 a4 a5 a6 : Option Addr) (n0 n1 n2 n3 n4 n5 n6 c0 c1 c2 c3 c4 c5 c6 : Nat) (A0 A3 A4 : Nat → Option Addr) (L0 L3 L4 C0 C3 C4 : Nat → Nat) (Z0 Z3 Z4 : Nat → Nat → Int) (f1 f2 f5 f6 : Nat → Int) (tx kind : Int)
    (h : LIn w a0 a1 a2 a3 a4 a5 a6 n0 n1 n2 n3 n4 n5 n6 A0 A3 A4 L0 L3 L4 C0 C3 C4 Z0 Z3 Z4 f1 f2 f5 f6) (hpos : 0 < w.heap.size) (hwk : (kind == 2) = false)
    (b0 : n0 ≤ 131072) (b1 : n1 ≤ 131072) (b2 : n2 ≤ 131072) (b3 : n3 ≤ 131072) (b4 : n4 ≤ 131072) (b5 : n5 ≤ 131072) (b6 : n6 ≤ 131072) :
    Calls Try.prog 3 #[.slice a0 n0 c0, .slice a1 n1 c1, .slice a2 n2 c2, .slice a3 n3 c3, .slice a4 n4 c4, .slice a5 n5 c5, .slice a6 n6 c6, .int .i64 tx, .int .u8 kind] w (LPost w) := by
  have HI := hid h
  clear h
  have d0 : decide ((131072 : Int) < (n0 : Int)) = false := decide_eq_false (by omega)
  have d1 : decide ((131072 : Int) < (n1 : Int)) = false := decide_eq_false (by omega)
  have d2 : decide ((131072 : Int) < (n2 : Int)) = false := decide_eq_false (by omega)
  have d3 : decide ((131072 : Int) < (n3 : Int)) = false := decide_eq_false (by omega)
  have d4 : decide ((131072 : Int) < (n4 : Int)) = false := decide_eq_false (by omega)
  have d5 : decide ((131072 : Int) < (n5 : Int)) = false := decide_eq_false (by omega)
  have d6 : decide ((131072 : Int) < (n6 : Int)) = false := decide_eq_false (by omega)
  go_enter Try.func3, Try.ntmps3
  go_wp2_with fail
  refine (bytes_any (fun b => b < w.heap.size) a0 a1 a2 a3 a4 a5 a6 n0 n1 n2 n3 n4 n5 n6 c0 c1 c2 c3 c4 c5 c6 A0 A3 A4 L0 L3 L4 C0 C3 C4 Z0 Z3 Z4 tx kind w HI.out.h0 HI.out.h3 HI.out.h4).mono ?_
  rintro e w' ⟨bo, rfl, hw'⟩
  subst hw'
  cases bo
  · go_wp2
    go_ret
    exact LPost.same _
  · go_wp2
    all_goals try (go_ret; exact LPost.same _)
    clear d0 d1 d2 d3 d4 d5 d6
    go_loopg [19, 20] n0 (fun g s19 s20 wx => wx = w' ∧ ∃ (k : Nat) (z : Int), k ≤ n0 ∧ g = n0 - k ∧ s20 = .int .i64 k ∧ s19 = .int .i64 z ∧ 0 ≤ z ∧ z ≤ 1048576 ∧ ∀ r, r < k → L0 r ≤ 131072)
    case atStart => exact ⟨rfl, 0, _, Nat.zero_le _, rfl, rfl, rfl, by omega, by omega, fun r hr => absurd hr (Nat.not_lt_zero _)⟩
    case round =>
      obtain ⟨rfl, k, z, hk, rfl, rfl, rfl, hz0, hz1, hall⟩ := hrel
      have HAL0 := hid hall
      clear hall
      by_cases hlt : k < n0
      · as_aux_lemma =>
          obtain ⟨b, off, rfl, _, hc⟩ := HI.out.h0 (by omega)
          have g1 := (hc k hlt).1
          clear hc
          by_cases t1 : L0 k ≤ 131072
          · by_cases t2 : z + 8 * (L0 k : Int) ≤ 1048576
            · go_wp2
              go_roundg (n0 - (k + 1))
              case measure => go_light; omega
              case rel =>
                go_light
                refine ⟨rfl, k + 1, _, by omega, rfl, by go_num, rfl, by omega, t2, fun r hr => ?_⟩
                by_cases e : r = k
                · subst e; exact t1
                · exact HAL0.out r (by omega)
            · go_wp2
              go_ret
              exact LPost.same _
          · go_wp2
            go_ret
            exact LPost.same _
      · obtain rfl : n0 = k := by omega
        go_wp2
        all_goals try (go_ret; exact LPost.same _)
        go_loopg [19, 21] n3 (fun g s19 s20 wx => wx = wr ∧ ∃ (k : Nat) (z : Int), k ≤ n3 ∧ g = n3 - k ∧ s20 = .int .i64 k ∧ s19 = .int .i64 z ∧ 0 ≤ z ∧ z ≤ 1048576 ∧ ∀ r, r < k → L3 r ≤ 131072)
        case atStart => exact ⟨rfl, 0, _, Nat.zero_le _, rfl, rfl, rfl, by omega, by omega, fun r hr => absurd hr (Nat.not_lt_zero _)⟩
        case round =>
          obtain ⟨rfl, k, z, hk, rfl, rfl, rfl, hz0, hz1, hall⟩ := hrel
          have HAL3 := hid hall
          clear hall
          by_cases hlt : k < n3
          · as_aux_lemma =>
              obtain ⟨b, off, rfl, _, hc⟩ := HI.out.h3 (by omega)
              have g1 := (hc k hlt).1
              clear hc
              by_cases t1 : L3 k ≤ 131072
              · by_cases t2 : z + 8 * (L3 k : Int) ≤ 1048576
                · go_wp2
                  go_roundg (n3 - (k + 1))
                  case measure => go_light; omega
                  case rel =>
                    go_light
                    refine ⟨rfl, k + 1, _, by omega, rfl, by go_num, rfl, by omega, t2, fun r hr => ?_⟩
                    by_cases e : r = k
                    · subst e; exact t1
                    · exact HAL3.out r (by omega)
                · go_wp2
                  go_ret
                  exact LPost.same _
              · go_wp2
                go_ret
                exact LPost.same _
          · obtain rfl : n3 = k := by omega
            go_wp2
            all_goals try (go_ret; exact LPost.same _)
            go_loopg [19, 22] n4 (fun g s19 s20 wx => wx = wr ∧ ∃ (k : Nat) (z : Int), k ≤ n4 ∧ g = n4 - k ∧ s20 = .int .i64 k ∧ s19 = .int .i64 z ∧ 0 ≤ z ∧ z ≤ 1048576 ∧ ∀ r, r < k → L4 r ≤ 131072)
            case atStart => exact ⟨rfl, 0, _, Nat.zero_le _, rfl, rfl, rfl, by omega, by omega, fun r hr => absurd hr (Nat.not_lt_zero _)⟩
            case round =>
              obtain ⟨rfl, k, z, hk, rfl, rfl, rfl, hz0, hz1, hall⟩ := hrel
              have HAL4 := hid hall
              clear hall
              by_cases hlt : k < n4
              · as_aux_lemma =>
                  obtain ⟨b, off, rfl, _, hc⟩ := HI.out.h4 (by omega)
                  have g1 := (hc k hlt).1
                  clear hc
                  by_cases t1 : L4 k ≤ 131072
                  · by_cases t2 : z + 8 * (L4 k : Int) ≤ 1048576
                    · go_wp2
                      go_roundg (n4 - (k + 1))
                      case measure => go_light; omega
                      case rel =>
                        go_light
                        refine ⟨rfl, k + 1, _, by omega, rfl, by go_num, rfl, by omega, t2, fun r hr => ?_⟩
                        by_cases e : r = k
                        · subst e; exact t1
                        · exact HAL4.out r (by omega)
                    · go_wp2
                      go_ret
                      exact LPost.same _
                  · go_wp2
                    go_ret
                    exact LPost.same _
              · obtain rfl : n4 = k := by omega
                clear hk hz0 hz1 hlt
                by_cases hkk : n3 = n4 ∧ n3 = n5 ∧ n3 = n6
                · obtain ⟨rfl, rfl, rfl⟩ := hkk
                  have hq4 : ((n3 : Int) != (n3 : Int)) = false := by simp
                  go_wp2_with fail
                  refine (all_any (fun b => b < wr.heap.size) a1 n1 c1 n0 f1 wr (by omega) HI.out.h1).mono ?_
                  rintro e w5 ⟨bo, rfl, hw5, hb1⟩
                  have hw5' := hw5.symm
                  subst hw5'
                  clear hw5
                  cases bo
                  · go_wp2_with fail
                    go_ret
                    exact LPost.same _
                  · have HW := hid (hb1 rfl)
                    clear hb1
                    go_wp2_with fail
                    refine (all_any (fun b => b < wr.heap.size) a2 n2 c2 n0 f2 wr (by omega) HI.out.h2).mono ?_
                    rintro e w5 ⟨bo, rfl, hw5, hb1⟩
                    have hw5' := hw5.symm
                    subst hw5'
                    clear hw5
                    cases bo
                    · go_wp2_with fail
                      go_ret
                      exact LPost.same _
                    · have HR := hid (hb1 rfl)
                      clear hb1
                      go_wp2_with fail
                      go_loopg [25] n3 (fun g s25 wx => ∃ (k q : Nat), k ≤ n3 ∧ g = n3 - k ∧ s25 = .int .i64 k ∧ wx = wr.drewN q ∧ ∀ r, r < k → KD n0 L3 L4 Z3 Z4 f5 r)
                      case atStart => exact ⟨0, 0, Nat.zero_le _, rfl, rfl, rfl, fun r hr => absurd hr (Nat.not_lt_zero _)⟩
                      case round =>
                        obtain ⟨k, q, hk, rfl, rfl, rfl, hall⟩ := hrel
                        have HK := hid hall
                        clear hall
                        by_cases hlt : k < n3
                        · as_aux_lemma =>
                            obtain ⟨b3x, o3x, rfl, _, hc3⟩ := HI.out.h3 (by omega)
                            obtain ⟨b4x, o4x, rfl, _, hc4⟩ := HI.out.h4 (by omega)
                            obtain ⟨b5x, o5x, rfl, _, hc5⟩ := HI.out.h5 (by omega)
                            have g3 := (hc3 k hlt).1
                            have g4 := (hc4 k hlt).1
                            have g5 := hc5 k hlt
                            have s3 := hid (hc3 k hlt).2
                            have s4 := hid (hc4 k hlt).2
                            have hltz : (k : Int) < (n3 : Int) := by omega
                            have l3 := HAL3.out k hlt
                            have l4 := HAL4.out k hlt
                            clear hc3 hc4 hc5
                            go_wp2_with fail
                            refine (all_any (fun b => b < wr.heap.size) (A3 k) (L3 k) (C3 k) n0 (Z3 k) (wr.drewN q) (by omega) s3.out).mono ?_
                            rintro e w5 ⟨bo, rfl, hw5, hb1⟩
                            have hw5' := hw5.symm
                            subst hw5'
                            clear hw5
                            cases bo
                            · go_wp2_with fail
                              go_ret
                              exact ⟨rfl, below_drewN (Below.refl _ _) _⟩
                            · have H3 := hid (hb1 rfl)
                              clear hb1
                              go_wp2_with fail
                              refine (all_any (fun b => b < wr.heap.size) (A4 k) (L4 k) (C4 k) n0 (Z4 k) (wr.drewN q) (by omega) s4.out).mono ?_
                              rintro e w5 ⟨bo, rfl, hw5, hb1⟩
                              have hw5' := hw5.symm
                              subst hw5'
                              clear hw5
                              cases bo
                              · go_wp2_with fail
                                go_ret
                                exact ⟨rfl, below_drewN (Below.refl _ _) _⟩
                              · have H4 := hid (hb1 rfl)
                                clear hb1
                                by_cases t1 : f5 k < 0
                                · have t1' : decide (f5 k < 0) = true := by simpa using t1
                                  go_wp2_with fail
                                  go_quiet (fail)
                                  go_wp2
                                  go_ret
                                  exact ⟨rfl, below_drewN (below_drewN (Below.refl _ _) _) _⟩
                                · have t1' : decide (f5 k < 0) = false := by simpa using t1
                                  by_cases t2 : (L4 k : Int) < f5 k
                                  · go_wp2_with fail
                                    go_quiet (fail)
                                    go_wp2
                                    go_ret
                                    exact ⟨rfl, below_drewN (below_drewN (Below.refl _ _) _) _⟩
                                  · go_wp2_with fail
                                    go_quiet (fail)
                                    go_wp2
                                    go_roundg (n3 - (k + 1))
                                    case measure => go_light; omega
                                    case rel =>
                                      go_light
                                      refine ⟨k + 1, q + _, by omega, rfl, by go_num, rfl, fun r hr => ?_⟩
                                      by_cases e : r = k
                                      · subst e; exact ⟨H3.out, H4.out, by omega, by omega⟩
                                      · exact HK.out r (by omega)
                        · obtain rfl : n3 = k := by omega
                          clear hk hlt
                          go_wp2_with fail
                          as_aux_lemma =>
                            have HI0 := hid (HI.out.drewN q)
                            have HB0 := hid (below_drewN (Below.refl wr.heap.size wr) q)
                            have hpos0 : 0 < (wr.drewN q).heap.size := hpos
                            generalize wr.drewN q = v0 at HI0 HB0 hpos0 ⊢
                            clear HI hpos
                            refine (rows_any _ a0 n0 c0 A0 L0 C0 Z0 v0 (by omega) (fun r hr => by have := HAL0.out r hr; omega) HI0.out.z0 HI0.out.y0 HI0.out.h0).mono ?_
                            intro e v1 hp
                            obtain ⟨pa, PA, he, k1x⟩ := hp.cr
                            subst he
                            have k1 := hid k1x
                            have kb1 := hid k1x.bel
                            have hz1 := k1x.bel.size
                            clear hp k1x
                            go_wp2_with fail
                            refine (clone_any _ a1 n1 c1 f1 v1 (by omega) HI0.out.z1 (HI0.out.h1.fram (Fram.of_below kb1.out (fun _ _ x => x)))).mono ?_
                            intro e v2 hp
                            obtain ⟨wa, he, k2x⟩ := hp.ci
                            subst he
                            have k2 := hid k2x
                            have hz2 := k2x.bel.size
                            have kb2 := hid (kb1.out.trans (k2x.bel.mono (by omega)))
                            clear hp k2x
                            go_wp2_with fail
                            refine (clone_any _ a2 n2 c2 f2 v2 (by omega) HI0.out.z2 (HI0.out.h2.fram (Fram.of_below kb2.out (fun _ _ x => x)))).mono ?_
                            intro e v3 hp
                            obtain ⟨ra, he, k3x⟩ := hp.ci
                            subst he
                            have k3 := hid k3x
                            have hz3 := k3x.bel.size
                            have kb3 := hid (kb2.out.trans (k3x.bel.mono (by omega)))
                            clear hp k3x
                            go_wp2_with fail
                            refine (rows_any _ a3 n3 c3 A3 L3 C3 Z3 v3 (by omega) (fun r hr => by have := HAL3.out r hr; omega) HI0.out.z3 HI0.out.y3 (HI0.out.h3.fram (Fram.of_below kb3.out (fun _ _ x => x)))).mono ?_
                            intro e v4 hp
                            obtain ⟨kwa, WA, he, k4x⟩ := hp.cr
                            subst he
                            have k4 := hid k4x
                            have hz4 := k4x.bel.size
                            have kb4 := hid (kb3.out.trans (k4x.bel.mono (by omega)))
                            clear hp k4x
                            go_wp2_with fail
                            refine (rows_any _ a4 n3 c4 A4 L4 C4 Z4 v4 (by omega) (fun r hr => by have := HAL4.out r hr; omega) HI0.out.z4 HI0.out.y4 (HI0.out.h4.fram (Fram.of_below kb4.out (fun _ _ x => x)))).mono ?_
                            intro e v5 hp
                            obtain ⟨kra, RA, he, k5x⟩ := hp.cr
                            subst he
                            have k5 := hid k5x
                            have hz5 := k5x.bel.size
                            have kb5 := hid (kb4.out.trans (k5x.bel.mono (by omega)))
                            clear hp k5x
                            go_wp2_with fail
                            refine (clone_any _ a5 n3 c5 f5 v5 (by omega) HI0.out.z5 (HI0.out.h5.fram (Fram.of_below kb5.out (fun _ _ x => x)))).mono ?_
                            intro e v6 hp
                            obtain ⟨ma, he, k6x⟩ := hp.ci
                            subst he
                            have k6 := hid k6x
                            have hz6 := k6x.bel.size
                            have kb6 := hid (kb5.out.trans (k6x.bel.mono (by omega)))
                            clear hp k6x
                            go_wp2_with fail
                            refine (clone_any _ a6 n3 c6 f6 v6 (by omega) HI0.out.z6 (HI0.out.h6.fram (Fram.of_below kb6.out (fun _ _ x => x)))).mono ?_
                            intro e v7 hp
                            obtain ⟨sa, he, k7x⟩ := hp.ci
                            subst he
                            have k7 := hid k7x
                            have hz7 := k7x.bel.size
                            have kb7 := hid (kb6.out.trans (k7x.bel.mono (by omega)))
                            clear hp k7x
                            go_wp2_with fail
                            have hC1 : C1 v7 v0.heap.size v7.heap.size pa wa ra kwa kra ma sa n0 n1 n2 n3 PA WA RA L0 L3 L4 Z0 Z3 Z4 f1 f2 f5 f6 := by
                              have b6 := k7.out.bel
                              have b5 := k6.out.bel.trans (b6.mono hz6)
                              have b4 := k5.out.bel.trans (b5.mono hz5)
                              have b3 := k4.out.bel.trans (b4.mono hz4)
                              have b2 := k3.out.bel.trans (b3.mono hz3)
                              have b1 := k2.out.bel.trans (b2.mono hz2)
                              exact ⟨(k1.out.rows.carry b1 (Nat.le_refl _)).wide (Nat.le_refl _) (by omega), (k2.out.sl.carry b2 (Nat.le_refl _)).wide (by omega) (by omega), (k3.out.sl.carry b3 (Nat.le_refl _)).wide (by omega) (by omega), (k4.out.rows.carry b4 (Nat.le_refl _)).wide (by omega) (by omega), (k5.out.rows.carry b5 (Nat.le_refl _)).wide (by omega) (by omega), (k6.out.sl.carry b6 (Nat.le_refl _)).wide (by omega) (by omega), k7.out.sl.wide (by omega) (Nat.le_refl _)⟩
                            have HC := hid hC1
                            have HN := hid (And.intro k1.out.nil (And.intro k1.out.nils (And.intro k2.out.nil (And.intro k3.out.nil (And.intro k4.out.nil (And.intro k4.out.nils (And.intro k5.out.nil (And.intro k5.out.nils (And.intro k6.out.nil k7.out.nil)))))))))
                            have hz17 : v0.heap.size ≤ v7.heap.size := by omega
                            have HB7 := hid (HB0.out.trans (kb7.out.mono (by have := HB0.out.size; omega)))
                            clear hC1 k1 k2 k3 k4 k5 k6 k7 kb1 kb2 kb3 kb4 kb5 kb6 kb7 hz1 hz2 hz3 hz4 hz5 hz6 hz7 HI0
                            refine (rows_any _ pa n0 n0 PA L0 L0 Z0 v7 (by omega) (fun r hr => by have := HAL0.out r hr; omega) HN.out.1 HN.out.2.1 HC.out.p).mono ?_
                            intro e v8 hp
                            obtain ⟨pa2, PA2, he, k8x⟩ := hp.cr
                            subst he
                            have k8 := hid k8x
                            have hz8 := k8x.bel.size
                            have kc8 := hid k8x.bel
                            clear hp k8x
                            go_wp2_with fail
                            refine (clone_any _ wa n1 n1 f1 v8 (by omega) HN.out.2.2.1 (HC.out.tw.carry kc8.out (Nat.le_refl _))).mono ?_
                            intro e v9 hp
                            obtain ⟨wa2, he, k9x⟩ := hp.ci
                            subst he
                            have k9 := hid k9x
                            have hz9 := k9x.bel.size
                            have kc9 := hid (kc8.out.trans (k9x.bel.mono (by omega)))
                            clear hp k9x
                            go_wp2_with fail
                            refine (clone_any _ ra n2 n2 f2 v9 (by omega) HN.out.2.2.2.1 (HC.out.tr.carry kc9.out (Nat.le_refl _))).mono ?_
                            intro e v10 hp
                            obtain ⟨ra2, he, k10x⟩ := hp.ci
                            subst he
                            have k10 := hid k10x
                            have hz10 := k10x.bel.size
                            have kc10 := hid (kc9.out.trans (k10x.bel.mono (by omega)))
                            clear hp k10x
                            go_wp2_with fail
                            refine (rows_any _ kwa n3 n3 WA L3 L3 Z3 v10 (by omega) (fun r hr => by have := HAL3.out r hr; omega) HN.out.2.2.2.2.1 HN.out.2.2.2.2.2.1 (HC.out.kw.carry kc10.out (Nat.le_refl _))).mono ?_
                            intro e v11 hp
                            obtain ⟨kwa2, WA2, he, k11x⟩ := hp.cr
                            subst he
                            have k11 := hid k11x
                            have hz11 := k11x.bel.size
                            have kc11 := hid (kc10.out.trans (k11x.bel.mono (by omega)))
                            clear hp k11x
                            go_wp2_with fail
                            refine (rows_any _ kra n3 n3 RA L4 L4 Z4 v11 (by omega) (fun r hr => by have := HAL4.out r hr; omega) HN.out.2.2.2.2.2.2.1 HN.out.2.2.2.2.2.2.2.1 (HC.out.kr.carry kc11.out (Nat.le_refl _))).mono ?_
                            intro e v12 hp
                            obtain ⟨kra2, RA2, he, k12x⟩ := hp.cr
                            subst he
                            have k12 := hid k12x
                            have hz12 := k12x.bel.size
                            have kc12 := hid (kc11.out.trans (k12x.bel.mono (by omega)))
                            clear hp k12x
                            go_wp2_with fail
                            refine (clone_any _ ma n3 n3 f5 v12 (by omega) HN.out.2.2.2.2.2.2.2.2.1 (HC.out.mt.carry kc12.out (Nat.le_refl _))).mono ?_
                            intro e v13 hp
                            obtain ⟨ma2, he, k13x⟩ := hp.ci
                            subst he
                            have k13 := hid k13x
                            have hz13 := k13x.bel.size
                            have kc13 := hid (kc12.out.trans (k13x.bel.mono (by omega)))
                            clear hp k13x
                            go_wp2_with fail
                            refine (clone_any _ sa n3 n3 f6 v13 (by omega) HN.out.2.2.2.2.2.2.2.2.2 (HC.out.sc.carry kc13.out (Nat.le_refl _))).mono ?_
                            intro e v14 hp
                            obtain ⟨sa2, he, k14x⟩ := hp.ci
                            subst he
                            have k14 := hid k14x
                            have hz14 := k14x.bel.size
                            have kc14 := hid (kc13.out.trans (k14x.bel.mono (by omega)))
                            clear hp k14x
                            go_wp2_with fail
                            have HZZ := hid (zin tx (by omega : 0 < v7.heap.size) k8.out k9.out k10.out k11.out k12.out k13.out k14.out (fun i hi => (HK.out i hi).2.2.1))
                            obtain ⟨PB, hPBlt, hPBn, hPBor, hZin⟩ := HZZ.out
                            have hDom : TDom n0 L0 n3 n1 n2 f1 f2 L3 L4 Z3 Z4 (fun i => (f5 i).toNat) := ⟨by omega, fun v hv => by have := HAL0.out v hv; omega, by omega, by omega, by omega, fun i hi => by have := HAL3.out i hi; omega, fun i hi => by have := HAL4.out i hi; omega, fun i hi => by have := (HK.out i hi).2.2; omega, HW.out, HR.out, fun i hi => (HK.out i hi).1, fun i hi => (HK.out i hi).2.1⟩
                            refine (zz_any v14 pa2 PB n0 n0 tx kind L0 Z0 n3 n3 n3 n3 n3 kwa2 kra2 ma2 sa2 wa2 n1 f1 ra2 n2 f2 WA2 RA2 L3 L3 L4 Z3 Z4 f6 (fun i => (f5 i).toNat) hZin hDom).mono ?_
                            rintro e v15 ⟨vtw, vtr, M, rfl, hO⟩
                            have HL := hid (LS.mk' HC.out HB7.out kc14.out k8.out k9.out k11.out k12.out hpos0 hz17 HB0.out.size hPBn hZin hO)
                            have HPA := hid hZin.hpa
                            have hszM := hO.hsz
                            clear hZin hO hDom HZZ k8 k9 k10 k11 k12 k13 k14 kc8 kc9 kc10 kc11 kc12 kc13 kc14 HC HB7 hPBlt hPBn hPBor hz8 hz9 hz10 hz11 hz12 hz13 hz14 HB0
                            have hmk := run_make_row' (P := Try.prog) 31 4 (.bool false) 1 Try.underlying31 Try.info4 rfl .i64 .i64 n0 (by omega) (by omega)
                            as_aux_lemma =>
                              have HL2 : Hid (LS wr v15 v0.heap.size v7.heap.size PB n0 tx false (srcK false Z3 Z4 L3 L4 (fun i => (f5 i).toNat) (src0 false (fun _ => false) f1 f2 n1 n2) n3) pa wa ra kwa kra ma sa n1 n2 n3 PA WA RA L0 L3 L4 Z0 Z3 Z4 f1 f2 f5 f6 WA2 RA2 vtw vtr M) := by
                                have := HL.out
                                rw [hwk] at this
                                exact this
                              clear HL
                              have hBB := HL2.out.hB
                              have hm0 : (v15.alloc (.cells (madeCells #[.bool false] n0) 4)).rowIs (M + 4) 4 n0 (fun _ => .bool false) := by
                                have := World.rowIs_made v15 (.bool false) n0 4
                                rwa [hszM] at this
                              have HF0 := hid ((Fram.refl (fun b => b < M + 4) v15).alloc (.cells (madeCells #[.bool false] n0) 4))
                              have hs0 : (v15.alloc (.cells (madeCells #[.bool false] n0) 4)).heap.size = M + 5 := by rw [World.size_alloc, hszM]
                              go_wp2_with fail
                              generalize v15.alloc (.cells (madeCells #[.bool false] n0) 4) = v16 at hm0 HF0 hs0 ⊢
                              refine (mark_any (Iv v0.heap.size v7.heap.size) (M + 4) n0 n0 (fun _ => false) wa n1 n1 f1 v16 (by omega) (by omega) hm0 (fun k x => by have := x.2; omega) (HL2.out.c1.tw.fram (HF0.out.weak (fun k _ x => by have := x.2; omega))) HW.out).mono ?_
                              rintro e v17 ⟨rfl, hm1, hf1x, hs1x⟩
                              have HF1 := hid (HF0.out.trans (hf1x.weak (fun k _ (x : k < M + 4) => by omega)))
                              rw [hs0] at hs1x
                              clear hf1x hm0 HF0 hs0 hmk
                              go_wp2_with fail
                              go_loopg [35] n3 (fun g s35 wx => ∃ i : Nat, i ≤ n3 ∧ g = n3 - i ∧ s35 = .int .i64 i ∧ wx.rowIs (M + 4) 4 n0 (fun v => .bool (srcK false Z3 Z4 L3 L4 (fun i => (f5 i).toNat) (src0 false (fun _ => false) f1 f2 n1 n2) i v)) ∧ Fram (fun b => b < M + 4) v15 wx ∧ wx.heap.size = M + 5)
                              case atStart => exact ⟨0, Nat.zero_le _, rfl, rfl, hm1, HF1.out, hs1x⟩
                              case round =>
                                obtain ⟨i, hi, rfl, rfl, hm, hF, hs⟩ := hrel
                                clear hm1 HF1 hs1x
                                by_cases hlt : i < n3
                                · as_aux_lemma =>
                                    obtain ⟨gb, go, hga, hgf, hcc⟩ := HL2.out.c1.kw (by omega)
                                    subst hga
                                    have g1 := hF.cell (hcc i hlt).1 (by have := hgf.2; show gb < M + 4; omega)
                                    have l3 := HAL3.out i hlt
                                    have l4 := HAL4.out i hlt
                                    have KI := hid (HK.out i hlt)
                                    have s1 := hid ((HL2.out.c1.kw.row hlt).fram (hF.weak (fun k _ x => by have := x.2; show k < M + 4; omega)))
                                    clear hcc
                                    go_wp2_with fail
                                    refine (mark_any (Iv v0.heap.size v7.heap.size) (M + 4) n0 n0 (srcK false Z3 Z4 L3 L4 (fun i => (f5 i).toNat) (src0 false (fun _ => false) f1 f2 n1 n2) i) (WA i) (L3 i) (L3 i) (Z3 i) wr (by omega) (by omega) hm (fun k x => by have := x.2; omega) s1.out KI.out.1).mono ?_
                                    rintro e w2 ⟨rfl, hm2, hf2x, hs2x⟩
                                    have hF2 := hF.trans (hf2x.weak (fun k _ (x : k < M + 4) => by omega))
                                    rw [hs] at hs2x
                                    clear hm hF hf2x hs s1 g1
                                    go_wp2_with fail
                                    go_roundg (n3 - (i + 1))
                                    case measure => go_light; omega
                                    case rel => go_light; exact ⟨i + 1, by omega, rfl, by go_num, hm2, hF2, hs2x⟩
                                · obtain rfl : n3 = i := by omega
                                  have HF5 := hid hF
                                  have HM5 := hid hm
                                  have hs5 := hs
                                  clear hm hF hs hlt hi
                                  go_wp2_with fail
                                  as_aux_lemma =>
                                    have hEx : ∃ v : World, v = wr := ⟨wr, rfl⟩
                                    obtain ⟨v20, rfl⟩ := hEx
                                    obtain ⟨sF, hsF⟩ : ∃ s : Nat → Bool, s = srcK false Z3 Z4 L3 L4 (fun i => (f5 i).toNat) (src0 false (fun _ => false) f1 f2 n1 n2) n3 := ⟨_, rfl⟩
                                    rw [← hsF] at HL2 HM5
                                    clear hsF
                                    go_loopg [36] n0 (fun g s36 wx => ∃ v : Nat, v ≤ n0 ∧ g = n0 - v ∧ s36 = .int .i64 v ∧ Fram (fun b => b < M + 5) v20 wx)
                                    case atStart => exact ⟨0, Nat.zero_le _, rfl, rfl, Fram.refl _ _⟩
                                    case round =>
                                      obtain ⟨v, hv, rfl, rfl, hF6⟩ := hrel
                                      by_cases hlt : v < n0
                                      · as_aux_lemma =>
                                          obtain ⟨gb, go, hga, hgf, hcc⟩ := HL2.out.c1.p (by omega)
                                          subst hga
                                          have hpa := HPA.out (by omega)
                                          subst hpa
                                          have HFv := hid (HF5.out.trans (hF6.weak (fun k _ (x : k < M + 4) => by omega)))
                                          have HF6 := hid hF6
                                          have g1 := HFv.out.cell (hcc v hlt).1 (by have := hgf.2; show gb < M + 4; omega)
                                          have m1 := HF6.out.cell (HM5.out.cell hlt) (by show M + 4 < M + 5; omega)
                                          have sR := hid (((HL2.out.c1.p.row hlt).weak (fun k _ x => (by have := x.2; omega : k < M + 4))).fram HFv.out)
                                          obtain ⟨⟨a, len, cap, hcell, hr⟩, _⟩ := HL2.out.ps v hlt
                                          have c1 := HFv.out.cell hcell (by have := HL2.out.hPB; show PB < M + 4; omega)
                                          have l0 := HAL0.out v hlt
                                          clear hcc hcell hF6
                                          rcases hr with ⟨hgn, rfl, hcap, hrow⟩ | ⟨hgn, rfl, rfl, hnil, hrow⟩
                                          · have sG := hid ((hrow.weak (fun k _ x => (by omega : k < M + 4))).fram HFv.out)
                                            obtain ⟨hsv, hvx⟩ := gain_src hgn
                                            have hvx' : ((v : Int) != tx) = true := bne_iff_ne.2 hvx
                                            rw [hsv] at m1
                                            obtain ⟨b, off, ha, _, hcg⟩ := sG.out (by omega)
                                            subst ha
                                            have g2 : wr.cell? ⟨b, off + L0 v, none⟩ = some (.int .i64 tx) := by simpa using hcg (L0 v) (by omega)
                                            have hq1 : (((L0 v : Int) + 1) != ((L0 v : Int) + 1)) = false := by simp
                                            have hq2 : (tx != tx) = false := by simp
                                            have hcz : (L0 v : Int) ≤ (cap : Int) := by omega
                                            have HEQ : Hid (Calls Try.prog 10 #[.slice (some ⟨b, off, none⟩) (L0 v) cap, .slice (PA v) (L0 v) (L0 v)] wr (EqPost wr)) :=
                                              eq_any (fun b => b < M + 4) (fun b => b < M + 4) (some ⟨b, off, none⟩) (L0 v) cap (PA v) (L0 v) (fun i => if i < L0 v then Z0 v i else tx) (Z0 v) wr (by omega) (fun h => ⟨b, off, rfl, by assumption, fun i hi => hcg i (by omega)⟩) sR.out (fun i hi => by simp [hi])
                                            by_cases t2 : L0 v = 0
                                            · have t2' : ((L0 v : Int) == 0) = true := beq_iff_eq.2 (by omega)
                                              clear t2 hcg hrow hvx hgn hsv
                                              as_aux_lemma =>
                                                go_wp2_with fail
                                                refine HEQ.out.mono ?_
                                                rintro e w2 ⟨rfl, q, hw2⟩
                                                have HW2 := hid hw2
                                                clear hw2
                                                go_wp2_with fail
                                                go_roundg (n0 - (v + 1))
                                                case measure => go_light; omega
                                                case rel => go_light; exact ⟨v + 1, by omega, rfl, by go_num, by rw [HW2.out]; exact HF6.out.drewN q⟩
                                            · have t2' : ((L0 v : Int) == 0) = false := beq_eq_false_iff_ne.2 (by omega)
                                              obtain ⟨b', off', ha', _, hcr⟩ := sR.out (by omega)
                                              rw [ha'] at g1 HEQ
                                              have g3 := hcr (L0 v - 1) (by omega)
                                              have t3 : (Z0 v (L0 v - 1) != tx) = true := by
                                                unfold gain at hgn
                                                rw [hsv, hvx'] at hgn
                                                simpa [t2] using hgn
                                              clear hcg hrow hvx hgn hsv hcr
                                              as_aux_lemma =>
                                                go_wp2_with fail
                                                refine HEQ.out.mono ?_
                                                rintro e w2 ⟨rfl, q, hw2⟩
                                                have HW2 := hid hw2
                                                clear hw2
                                                go_wp2_with fail
                                                go_roundg (n0 - (v + 1))
                                                case measure => go_light; omega
                                                case rel => go_light; exact ⟨v + 1, by omega, rfl, by go_num, by rw [HW2.out]; exact HF6.out.drewN q⟩
                                          · have sG := hid ((hrow.weak (fun k _ x => (by omega : k < M + 4))).fram HFv.out)
                                            have HEQ : Hid (Calls Try.prog 10 #[.slice a (L0 v) (L0 v), .slice (PA v) (L0 v) (L0 v)] wr (EqPost wr)) :=
                                              eq_any (fun b => b < M + 4) (fun b => b < M + 4) a (L0 v) (L0 v) (PA v) (L0 v) (Z0 v) (Z0 v) wr (by omega) sG.out sR.out (fun i hi => rfl)
                                            cases hsv : sF v
                                            · rw [hsv] at m1
                                              clear hrow hgn
                                              as_aux_lemma =>
                                                go_wp2_with fail
                                                refine HEQ.out.mono ?_
                                                rintro e w2 ⟨rfl, q, hw2⟩
                                                have HW2 := hid hw2
                                                clear hw2
                                                go_wp2_with fail
                                                go_roundg (n0 - (v + 1))
                                                case measure => go_light; omega
                                                case rel => go_light; exact ⟨v + 1, by omega, rfl, by go_num, by rw [HW2.out]; exact HF6.out.drewN q⟩
                                            · rw [hsv] at m1
                                              by_cases hvx : (v : Int) = tx
                                              · have hvx' : ((v : Int) != tx) = false := by simp [hvx]
                                                clear hrow hgn hvx
                                                as_aux_lemma =>
                                                  go_wp2_with fail
                                                  refine HEQ.out.mono ?_
                                                  rintro e w2 ⟨rfl, q, hw2⟩
                                                  have HW2 := hid hw2
                                                  clear hw2
                                                  go_wp2_with fail
                                                  go_roundg (n0 - (v + 1))
                                                  case measure => go_light; omega
                                                  case rel => go_light; exact ⟨v + 1, by omega, rfl, by go_num, by rw [HW2.out]; exact HF6.out.drewN q⟩
                                              · have hvx' : ((v : Int) != tx) = true := bne_iff_ne.2 hvx
                                                have h3 : L0 v ≠ 0 ∧ Z0 v (L0 v - 1) = tx := by
                                                  unfold gain at hgn
                                                  rw [hsv, hvx'] at hgn
                                                  simpa using hgn
                                                obtain ⟨h30, h31⟩ := h3
                                                have t2' : ((L0 v : Int) == 0) = false := beq_eq_false_iff_ne.2 (by omega)
                                                have t3 : (Z0 v (L0 v - 1) != tx) = false := by simp [h31]
                                                obtain ⟨b', off', ha', _, hcr⟩ := sR.out (by omega)
                                                rw [ha'] at g1 HEQ
                                                have g3 := hcr (L0 v - 1) (by omega)
                                                clear hrow hgn hvx hcr h31 hsv
                                                as_aux_lemma =>
                                                  go_wp2_with fail
                                                  refine HEQ.out.mono ?_
                                                  rintro e w2 ⟨rfl, q, hw2⟩
                                                  have HW2 := hid hw2
                                                  clear hw2
                                                  go_wp2_with fail
                                                  go_roundg (n0 - (v + 1))
                                                  case measure => go_light; omega
                                                  case rel => go_light; exact ⟨v + 1, by omega, rfl, by go_num, by rw [HW2.out]; exact HF6.out.drewN q⟩
                                      · obtain rfl : n0 = v := by omega
                                        have HF6 := hid (HF5.out.trans (hF6.weak (fun k _ (x : k < M + 4) => by omega)))
                                        clear hF6 hv hlt HM5
                                        as_aux_lemma =>
                                          obtain ⟨wx1, g, cap, e1, e2, e3, hcap, e4⟩ := HL2.out.hr rfl
                                          subst e1
                                          subst e3
                                          have s2 := hid ((e2.weak (fun k _ x => (by omega : k < M + 4))).fram HF6.out)
                                          have s4 := hid ((e4.weak (fun k _ x => (by omega : k < M + 4))).fram HF6.out)
                                          have s1 := hid ((HL2.out.c1.tw.weak (fun k _ x => (by have := x.2; omega : k < M + 4))).fram HF6.out)
                                          have s3 := hid ((HL2.out.c1.tr.weak (fun k _ x => (by have := x.2; omega : k < M + 4))).fram HF6.out)
                                          clear e2 e4
                                          go_wp2_with fail
                                          refine (eq_any (fun b => b < M + 4) (fun b => b < M + 4) wx1 n1 n1 wa n1 f1 f1 wr (by omega) s2.out s1.out (fun i hi => rfl)).mono ?_
                                          rintro e w2 ⟨rfl, q, hw2⟩
                                          have HF7 : Hid (Fram (fun b => b < M + 4) v15 w2) := by rw [hw2]; exact HF6.out.drewN q
                                          have s4' : Hid (SlF (fun b => b < M + 4) w2 (some ⟨g, 0, none⟩) (n2 + 1) (fun i => if i < n2 then f2 i else tx)) := by rw [hw2]; exact s4.out
                                          have s3' : Hid (SlF (fun b => b < M + 4) w2 ra n2 f2) := by rw [hw2]; exact s3.out
                                          clear hw2 s4 s3 s2 s1 HF6
                                          obtain ⟨b, off, ha, hbf, hcg⟩ := s4'.out (by omega)
                                          cases ha
                                          have g2 : w2.cell? ⟨g, n2, none⟩ = some (.int .i64 tx) := by simpa using hcg n2 (by omega)
                                          have hq1 : (((n2 : Int) + 1) != ((n2 : Int) + 1)) = false := by simp
                                          have hq2 : (tx != tx) = false := by simp
                                          have hcz : (n2 : Int) ≤ (cap : Int) := by omega
                                          have HEQ : Hid (Calls Try.prog 10 #[.slice (some ⟨g, 0, none⟩) n2 cap, .slice ra n2 n2] w2 (EqPost w2)) :=
                                            eq_any (fun b => b < M + 4) (fun b => b < M + 4) (some ⟨g, 0, none⟩) n2 cap ra n2 (fun i => if i < n2 then f2 i else tx) f2 w2 (by omega) (fun h => ⟨g, 0, rfl, hbf, fun i hi => hcg i (by omega)⟩) s3'.out (fun i hi => by simp [hi])
                                          clear hcg s4' s3'
                                          go_wp2_with fail
                                          refine HEQ.out.mono ?_
                                          rintro e v21 ⟨rfl, q2, hw3⟩
                                          have HF6 : Hid (Fram (fun b => b < M + 4) v15 v21) := by rw [hw3]; exact HF7.out.drewN q2
                                          clear hw3 HF7 HEQ
                                          go_wp2_with fail
                                          as_aux_lemma =>
                                            go_loopg [40] n3 (fun g s40 wx => ∃ i : Nat, i ≤ n3 ∧ g = n3 - i ∧ s40 = .int .i64 i ∧ Fram (fun b => b < M + 4) v15 wx)
                                            case atStart => exact ⟨0, Nat.zero_le _, rfl, rfl, HF6.out⟩
                                            case round =>
                                              obtain ⟨i, hi, rfl, rfl, hF7⟩ := hrel
                                              clear HF6
                                              by_cases hlt : i < n3
                                              · as_aux_lemma =>
                                                  obtain ⟨gb1, go1, hga1, hgf1, hcc1⟩ := HL2.out.c1.kw (by omega)
                                                  subst hga1
                                                  obtain ⟨gb2, go2, hga2, hgf2, hcc2⟩ := HL2.out.c1.kr (by omega)
                                                  subst hga2
                                                  obtain ⟨gb3, go3, hga3, hgf3, hcc3⟩ := HL2.out.c1.mt (by omega)
                                                  subst hga3
                                                  obtain ⟨gb4, go4, hga4, hgf4, hcc4⟩ := HL2.out.c1.sc (by omega)
                                                  subst hga4
                                                  have g1 := hF7.cell (hcc1 i hlt).1 (by have := hgf1.2; show gb1 < M + 4; omega)
                                                  have g2 := hF7.cell (hcc2 i hlt).1 (by have := hgf2.2; show gb2 < M + 4; omega)
                                                  have g3 := hF7.cell (hcc3 i hlt) (by have := hgf3.2; show gb3 < M + 4; omega)
                                                  have g4 := hF7.cell (hcc4 i hlt) (by have := hgf4.2; show gb4 < M + 4; omega)
                                                  have p0 := hF7.cell (HL2.out.r0.cell hlt) (by show M < M + 4; omega)
                                                  have p1 := hF7.cell (HL2.out.r1.cell hlt) (by show M + 1 < M + 4; omega)
                                                  have p2 := hF7.cell (HL2.out.r2.cell hlt) (by show M + 2 < M + 4; omega)
                                                  have p3 := hF7.cell (HL2.out.r3.cell hlt) (by show M + 3 < M + 4; omega)
                                                  have l3 := HAL3.out i hlt
                                                  have l4 := HAL4.out i hlt
                                                  have hltz : (i : Int) < (n3 : Int) := by omega
                                                  have E1 : Hid (∀ q, Calls Try.prog 10 #[.slice (WA2 i) (L3 i) (L3 i), .slice (WA i) (L3 i) (L3 i)] (wr.drewN q) (fun e w' => e = .returned (.bool true) ∧ ∃ m, w' = (wr.drewN q).drewN m)) := fun q =>
                                                    eq_any (fun b => b < M + 4) (fun b => b < M + 4) _ _ _ _ _ (Z3 i) (Z3 i) (wr.drewN q) (by omega) (((HL2.out.kw i hlt).weak (fun k _ x => (by omega : k < M + 4))).fram (hF7.drewN q)) (((HL2.out.c1.kw.row hlt).weak (fun k _ x => (by have := x.2; omega : k < M + 4))).fram (hF7.drewN q)) (fun _ _ => rfl)
                                                  have E2 : Hid (∀ q, Calls Try.prog 10 #[.slice (RA2 i) (L4 i) (L4 i), .slice (RA i) (L4 i) (L4 i)] (wr.drewN q) (fun e w' => e = .returned (.bool true) ∧ ∃ m, w' = (wr.drewN q).drewN m)) := fun q =>
                                                    eq_any (fun b => b < M + 4) (fun b => b < M + 4) _ _ _ _ _ (Z4 i) (Z4 i) (wr.drewN q) (by omega) (((HL2.out.kr i hlt).weak (fun k _ x => (by omega : k < M + 4))).fram (hF7.drewN q)) (((HL2.out.c1.kr.row hlt).weak (fun k _ x => (by have := x.2; omega : k < M + 4))).fram (hF7.drewN q)) (fun _ _ => rfl)
                                                  clear hcc1 hcc2 hcc3 hcc4
                                                  obtain ⟨mt, hmt⟩ := Int.eq_ofNat_of_zero_le (HK.out i hlt).2.2.1
                                                  rw [hmt] at g3
                                                  rw [hmt, if_neg (by simp), Int.toNat_natCast] at p0
                                                  rw [if_neg (by simp)] at p1
                                                  have hq1 : ((mt : Int) != (mt : Int)) = false := by simp
                                                  have hq2 : (f6 i != f6 i) = false := by simp
                                                  clear hmt
                                                  have HF7 := hid hF7
                                                  clear hF7
                                                  go_wp2_with fail
                                                  go_quiet ((first | (go_at_call_of 10 (WA2 i); exact Calls.quiet_of (E1.out _)) | (go_at_call_of 10 (RA2 i); exact Calls.quiet_of (E2.out _))))
                                                  go_wp2_with fail
                                                  go_roundg (n3 - (i + 1))
                                                  case measure => go_light; omega
                                                  case rel => go_light; exact ⟨i + 1, by omega, rfl, by go_num, HF7.out.drewN _⟩
                                              · go_wp2_with fail
                                                go_ret
                                                exact ⟨rfl, HL2.out.bel.trans (hF7.below (by have := HL2.out.bel.size; have := HL2.out.size; omega) (fun k hk => by omega))⟩
                · as_aux_lemma =>
                    by_cases e4 : n3 = n4
                    · subst e4
                      have hq4 : ((n3 : Int) != (n3 : Int)) = false := by simp
                      by_cases e5 : n3 = n5
                      · subst e5
                        have e6 : ((n6 : Int) != (n3 : Int)) = true := bne_iff_ne.2 (by omega)
                        clear hkk
                        go_wp2_with fail
                        go_ret
                        exact LPost.same _
                      · have e5' : ((n5 : Int) != (n3 : Int)) = true := bne_iff_ne.2 (by omega)
                        clear hkk
                        go_wp2_with fail
                        go_ret
                        exact LPost.same _
                    · have e4' : ((n4 : Int) != (n3 : Int)) = true := bne_iff_ne.2 (by omega)
                      clear hkk
                      go_wp2_with fail
                      go_ret
                      exact LPost.same _
end Go.Proofs.Qxb6623442a
