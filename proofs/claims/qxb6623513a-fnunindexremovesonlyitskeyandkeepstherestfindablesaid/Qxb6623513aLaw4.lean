/- FnUnindexRemovesOnlyItsKeyAndKeepsTheRestFindable: the walk. -/
import Derived.Test.Qxb6623513aLaw3S
import Derived.Test.Qxb6623513aDist
namespace Go.Proofs.Qxb6623513a
open Go.RowKit
set_option linter.unusedVariables false

/-- What the last part of the law works on. -/
structure L4 (w wx : World) (ka : Option Addr) (nk T N B : Nat) (K0 K1 ix I : Nat → Int) (f g : Nat → Bool) : Prop where
  got : Row wx T N ix
  bef : Row wx (T + 1) N I
  keys : KeysF wx ka nk K0 K1
  ib : BRow wx B (nk + 1) f
  ia : BRow wx (B + 1) (nk + 1) g
  below : Below w.heap.size w wx
  hB : T + 1 < B
  hW : w.heap.size ≤ T
  hK : ∀ p, ka = some p → p.block < T
section
variable {w wx : World} {ka : Option Addr} {nk T N B : Nat} {K0 K1 ix I : Nat → Int} {f g : Nat → Bool}
theorem KeysF.other (h : KeysF wx ka nk K0 K1) (hK : ∀ p, ka = some p → p.block < T) {a : Addr} (ha : T ≤ a.block) (v : Value) : KeysF (wx.setCell a v) ka nk K0 K1 := fun hn => by
  obtain ⟨b, off, rfl, hc⟩ := h hn
  have := hK _ rfl
  have e : ∀ q, (wx.setCell a v).cell? ⟨b, q, none⟩ = wx.cell? ⟨b, q, none⟩ := fun q => World.cell?_setCell_other _ _ _ _ (fun e => by have h2 := congrArg Addr.block e; simp at h2 this; omega)
  exact ⟨b, off, rfl, fun i hi => by rw [e, e]; exact hc i hi⟩
theorem L4.setB (h : L4 w wx ka nk T N B K0 K1 ix I f g) (i : Nat) (v : Bool) : L4 w (wx.setCell ⟨B, i, none⟩ (.bool v)) ka nk T N B K0 K1 ix I (fun j => if j = i then v else f j) g :=
  have h1 := h.hB
  have h2 := h.hW
  ⟨h.got.other (by show T ≠ B; omega) _, h.bef.other (by show T + 1 ≠ B; omega) _, h.keys.other h.hK (by show T ≤ B; omega) _, h.ib.set i v, h.ia.other (by show B + 1 ≠ B; omega) _, h.below.setCell (by show w.heap.size ≤ B; omega) _, h.hB, h.hW, h.hK⟩
theorem L4.setA (h : L4 w wx ka nk T N B K0 K1 ix I f g) (i : Nat) (v : Bool) : L4 w (wx.setCell ⟨B + 1, i, none⟩ (.bool v)) ka nk T N B K0 K1 ix I f (fun j => if j = i then v else g j) :=
  have h1 := h.hB
  have h2 := h.hW
  ⟨h.got.other (by show T ≠ B + 1; omega) _, h.bef.other (by show T + 1 ≠ B + 1; omega) _, h.keys.other h.hK (by show T ≤ B + 1; omega) _, h.ib.other (by show B ≠ B + 1; omega) _, h.ia.set i v, h.below.setCell (by show w.heap.size ≤ B + 1; omega) _, h.hB, h.hW, h.hK⟩
theorem L4.drewN (h : L4 w wx ka nk T N B K0 K1 ix I f g) (q : Nat) : L4 w (wx.drewN q) ka nk T N B K0 K1 ix I f g :=
  ⟨h.got.drewN q, h.bef.drewN q, h.keys, h.ib.drewN q, h.ia.drewN q, below_drewN h.below q, h.hB, h.hW, h.hK⟩
theorem L4.drew (h : L4 w wx ka nk T N B K0 K1 ix I f g) : L4 w wx.drew ka nk T N B K0 K1 ix I f g := ⟨h.got, h.bef, h.keys, h.ib, h.ia, h.below.drew, h.hB, h.hW, h.hK⟩
theorem L4.fg {f' g' : Nat → Bool} (h : L4 w wx ka nk T N B K0 K1 ix I f g) (e : ∀ i, f i = f' i) (e' : ∀ i, g i = g' i) : L4 w wx ka nk T N B K0 K1 ix I f' g' :=
  ⟨h.got, h.bef, h.keys, h.ib.congr (fun i _ => e i), h.ia.congr (fun i _ => e' i), h.below, h.hB, h.hW, h.hK⟩
theorem L4.start (hg : Row wx T N ix) (hb : Row wx (T + 1) N I) (hk : KeysF wx ka nk K0 K1) (hbl : Below w.heap.size w wx) (h1 : T + 1 < wx.heap.size) (h2 : w.heap.size ≤ T) (h3 : ∀ p, ka = some p → p.block < T) (n : Nat) (hn : n = nk + 1) :
    L4 w ((wx.alloc (.cells (madeCells #[.bool false] n) 4)).alloc (.cells (madeCells #[.bool false] n) 4)) ka nk T N wx.heap.size K0 K1 ix I (fun _ => false) (fun _ => false) := by
  subst hn
  have hm := BRow.made (wx.alloc (.cells (madeCells #[.bool false] (nk + 1)) 4)) (nk + 1)
  rw [World.size_alloc] at hm
  refine ⟨(hg.alloc _).alloc _, (hb.alloc _).alloc _, ?_, (BRow.made wx (nk + 1)).alloc _, hm, (hbl.alloc (by omega) _).alloc (by simp; omega) _, h1, h2, h3⟩
  intro hp
  obtain ⟨b, off, rfl, hc⟩ := hk hp
  have := h3 _ rfl
  have e : ∀ q (o : Obj), ((wx.alloc o).alloc o).cell? ⟨b, q, none⟩ = wx.cell? ⟨b, q, none⟩ := fun q o => by
    rw [World.cell?_alloc_old _ _ _ (by rw [World.size_alloc]; show b ≠ wx.heap.size + 1; simp at this; omega), World.cell?_alloc_old _ _ _ (by show b ≠ wx.heap.size; simp at this; omega)]
  exact ⟨b, off, rfl, fun i hi => by rw [e, e]; exact hc i hi⟩
end

set_option maxHeartbeats 4000000 in
set_option maxRecDepth 100000 in
theorem law4_some (p : Addr) (nk kc b off N c : Nat) (cell : Int) (K0 K1 I : Nat → Int) (w : World) (hnk : nk ≤ 65536) (hN : N ≤ 4096) (hsum : nk * 16 + N * 4 ≤ 1048576) (hN1 : 1 ≤ N) (hand : bits .and .i64 (N : Int) ((N : Int) - 1) = 0)
    (hkc : KeysP w p nk K0 K1) (hI : IdxF w b off N I) (hb : b < w.heap.size) (hr : ∀ i, i < N → 0 ≤ I i ∧ I i < 4294967296) :
    Calls Try.prog 4 #[.slice (some p) nk kc, .slice (some ⟨b, off, none⟩) N c, .int .i64 cell] w (LawPost w) := by
  have hk : KeysF w (some p) nk K0 K1 := fun hn => by
    obtain ⟨kb, ko, rfl, _, h⟩ := hkc hn
    exact ⟨kb, ko, rfl, h⟩
  have h22 := make22 nk hnk
  have HKC := hid hkc
  obtain ⟨m, hm31, hpow⟩ := pow_of_and N hN1 (by omega) hand
  have HM := hid (Mask.of hm31 hpow)
  have HD := hid (dom_any (some p) nk kc b off N c cell K0 K1 I w HM.out hand hN1 hN hnk hk hI hr)
  have HI := hid hI
  have HR := hid hr
  clear hpow hand hI hr hk hkc
  go_enter Try.func4, Try.ntmps4
  go_wp2_with fail
  refine (bytes10_any _ _ _ _ _ _ _ _).mono ?_
  rintro e w' ⟨bo, rfl, hw⟩
  have hw' := hw.symm
  subst hw'
  clear hw
  cases bo
  · go_wp2_with fail
    go_ret
    exact LawPost.here _
  · go_wp2_with fail
    refine HD.out.mono ?_
    rintro e w2 ⟨bo, rfl, hw2, hbo⟩
    have hw2' := hw2.symm
    subst hw2'
    clear hw2 HD
    cases bo
    · go_wp2_with fail
      go_ret
      exact LawPost.here _
    · obtain ⟨hc0, hc1, hwf⟩ := hbo rfl
      obtain ⟨q, rfl⟩ := Int.eq_ofNat_of_zero_le hc0
      obtain ⟨e0, r, he, hIe, hrN, hP, L⟩ := hwf.places q (by omega)
      have hP' := hP.symm
      subst hP'
      have HW := hid hwf
      have HL := hid L
      have HIe := hid hIe
      have hpq : ((P N e0 r : Nat) : Int) < (N : Int) := hc1
      clear hbo hwf L hIe hP hc0 hc1
      have HDI := hid (dist_any (some p) nk kc b off N c K0 I w hN hnk HW.out HI.out hb)
      go_wp2_with fail
      refine HDI.out.mono ?_
      rintro e wD ⟨bo, rfl, hBD, hsD, hbo⟩
      have HBD := hid hBD
      have hwD : w.heap.size ≤ wD.heap.size := hBD.size
      have hbo' := hid hbo
      clear hbo hsD HDI hBD
      cases bo
      · go_wp2_with fail
        go_ret
        exact ⟨rfl, HBD.out⟩
      have HDis := hid (hbo'.out rfl)
      clear hbo'
      have HKC2 : Hid (KeysP wD p nk K0 K1) := fun hn => by
        obtain ⟨kb, ko, rfl, hkb, h⟩ := HKC.out hn
        exact ⟨kb, ko, rfl, by omega, fun i hi => by rw [HBD.out.cell (p := ⟨kb, ko + i * 2, none⟩) hkb, HBD.out.cell (p := ⟨kb, ko + i * 2 + 1, none⟩) hkb]; exact h i hi⟩
      clear HKC
      obtain ⟨wX, hrun, hP, hB, hsz⟩ := copy_pairs wD.heap.size nk kc p 3 K0 K1 _ _ _ (Prs.made2 wD nk) (fun hn => by
        obtain ⟨kb, ko, rfl, hkb, h⟩ := HKC2.out hn
        refine ⟨kb, ko, rfl, fun i hi => ?_⟩
        rw [World.cell?_alloc_old _ _ _ (by show kb ≠ wD.heap.size; omega), World.cell?_alloc_old _ _ _ (by show kb ≠ wD.heap.size; omega)]
        exact h i hi)
      rw [World.size_alloc] at hsz
      have HKX := hid hP.keys
      have hkl := hid (show ∀ p, (some ⟨wD.heap.size, 0, none⟩ : Option Addr) = some p → p.block < wX.heap.size from fun p hp => by cases hp; show wD.heap.size < _; omega)
      have HBX : Hid (Below w.heap.size w wX) := HBD.out.trans ((((Below.refl _ _).alloc (Nat.le_refl _) _).trans hB).mono hwD)
      clear hP hB HKC2 hsz
      have hIX : IdxF wX b off N I := fun i hi => by rw [HBX.out.cell (p := ⟨b, off + i, none⟩) hb]; exact HI.out i hi
      have hbX : b < wX.heap.size := Nat.lt_of_lt_of_le hb HBX.out.size
      have HCL := hid (clone_some b off N c I wX hN hbX hIX)
      have hwx := HBX.out.size
      clear hIX
      go_wp2_with fail
      --STOP1
      clear h22 hrun
      refine HCL.out.mono ?_
      rintro e w3 ⟨rfl, hR3, hB3, hs3⟩
      have HK3 := hid (HKX.out.below hB3 hkl.out)
      have HCL2 := hid (clone_some wX.heap.size 0 N N I w3 hN (by omega) hR3.idx)
      have HR3 := hid hR3
      have HB3 := hid (HBX.out.trans (hB3.mono hwx))
      clear hR3 hB3 HCL
      go_wp2_with fail
      --STOP2
      refine HCL2.out.mono ?_
      rintro e w4 ⟨rfl, hR4, hB4, hs4⟩
      rw [hs3] at hR4 hs4 ⊢
      have HK4 := hid (HK3.out.below hB4 (fun p hp => by have := hkl.out p hp; omega))
      have HZZ := hid (zz_any (some ⟨wD.heap.size, 0, none⟩) nk nk wX.heap.size N e0 r K0 K1 I w4 HM.out hN hnk HW.out he HIe.out hrN HL.out HK4.out (fun p hp => by have := hkl.out p hp; omega) (HR3.out.below hB4 (by omega)))
      have HR4 := hid hR4
      have HB4 := hid (HB3.out.trans (hB4.mono (by omega)))
      clear hB4 hR4 HCL2 HR3 HK3
      go_wp2_with fail
      --STOP3
      refine HZZ.out.mono ?_
      rintro e w5 ⟨rfl, hR5, hP5, hs5, ix, c5, hT5, hF5, hS5⟩
      have hbe := show Row w5 (wX.heap.size + 1) N I from World.rowIs.of_block HR4.out (hR5.rest _ (by omega) (by omega))
      have HK5 := hid (HK4.out.rst hR5 (fun p hp => by have := hkl.out p hp; omega))
      have HB5 := hid (HB4.out.trans (hR5.below.mono hwx))
      have HRG := hid (fun p hp hne => hF5.range HW.out he p hp hne)
      have HDX := hid (hF5.dis HL.out he hS5.1 (by have := hS5.2.1; omega) HDis.out)
      have HRC := hid (fun p hp hne => hF5.reach HW.out HL.out he HIe.out hS5 p hp hne)
      have HNM := hid (fun v hv => hF5.named HL.out he HIe.out hS5 HDis.out v hv)
      have hlt5 : wX.heap.size + 1 < w5.heap.size := by omega
      have HL4 := hid (L4.start hT5 hbe HK5.out HB5.out hlt5 hwx hkl.out (nk + 1) rfl)
      have g1 := hbe.cell (P_lt hN1 e0 r)
      have hmk := run_make_row' (P := Try.prog) 33 4 (.bool false) 1 Try.underlying33 Try.info4 rfl .i64 .i64 (nk + 1) (by omega) (by omega)
      rw [show ((nk + 1 : Nat) : Int) = (nk : Int) + 1 by omega] at hmk
      rw [hs4]
      clear hR5 hP5 hT5 hF5 hS5 hbe HR4 HZZ HK4 HB4 HB3 HK5 HB5 hs3 hs4 hs5
      go_wp2_with fail
      --STOP4
      clear g1 hmk
      go_loopg [14] N (fun g s14 wx => ∃ k : Nat, k ≤ N ∧ g = N - k ∧ s14 = .int .i64 k ∧ L4 w wx (some ⟨wD.heap.size, 0, none⟩) nk wX.heap.size N w5.heap.size K0 K1 ix I (nam I k) (fun _ => false))
      case atStart => exact ⟨0, Nat.zero_le _, rfl, rfl, HL4.out.fg (fun _ => rfl) (fun _ => rfl)⟩
      case round =>
        obtain ⟨k, hk, rfl, rfl, hL⟩ := hrel
        clear HL4
        by_cases hlt : k < N
        · have g1 := hL.bef.cell hlt
          by_cases t1 : I k = 0
          · have t1' : (I k != 0) = false := by rw [t1]; rfl
            have HX := hid (hL.fg (fun j => nam_skip I k t1 j) (fun _ => rfl))
            clear hL t1
            go_wp2_with fail
            go_roundg (N - (k + 1))
            case measure => go_light; omega
            case rel => go_light; exact ⟨k + 1, by omega, rfl, by go_num, HX.out⟩
          · have t1' : (I k != 0) = true := bne_iff_ne.2 t1
            obtain ⟨v1, v2, _⟩ := HW.out.2 k hlt t1
            obtain ⟨V, hV⟩ : ∃ V : Nat, I k = (V : Int) + 1 := ⟨(I k - 1).toNat, by omega⟩
            have hVn : V < nk := by omega
            have g2 : wr.cell? ⟨w5.heap.size, V + 1, none⟩ = some (.bool (nam I k (V + 1))) := hL.ib.cell (by omega)
            have g3 := hL.ib.frozen (V + 1)
            have HX := hid ((hL.setB (V + 1) true).fg (fun j => nam_put I k V hV j) (fun _ => rfl))
            rw [hV] at g1 t1'
            clear hL t1 v1 v2 hV
            go_wp2_with fail
            --STOP5
            go_roundg (N - (k + 1))
            case measure => go_light; omega
            case rel => go_light; exact ⟨k + 1, by omega, rfl, by go_num, HX.out⟩
        · obtain rfl : N = k := by omega
          have HX := hid hL
          clear hL
          go_wp2_with fail
          --STOP6
          go_loopg [15] N (fun g s15 wx => ∃ k : Nat, k ≤ N ∧ g = N - k ∧ s15 = .int .i64 k ∧ L4 w wx (some ⟨wD.heap.size, 0, none⟩) nk wX.heap.size N w5.heap.size K0 K1 ix I (nam I N) (nam ix k))
          case atStart => exact ⟨0, Nat.zero_le _, rfl, rfl, HX.out.fg (fun _ => rfl) (fun _ => rfl)⟩
          case round =>
            obtain ⟨k, hk, rfl, rfl, hL⟩ := hrel
            clear HX
            by_cases hlt : k < N
            · have g1 := hL.got.cell hlt
              by_cases t1 : ix k = 0
              · have t1' : (ix k == 0) = true := beq_iff_eq.2 t1
                have HX := hid (hL.fg (fun _ => rfl) (fun j => nam_skip ix k t1 j))
                clear hL t1
                go_wp2_with fail
                go_roundg (N - (k + 1))
                case measure => go_light; omega
                case rel => go_light; exact ⟨k + 1, by omega, rfl, by go_num, HX.out⟩
              · have t1' : (ix k == 0) = false := beq_eq_false_iff_ne.2 t1
                obtain ⟨v1, v2⟩ := HRG.out k hlt t1
                obtain ⟨V, hV⟩ : ∃ V : Nat, ix k = (V : Int) + 1 := ⟨(ix k - 1).toNat, by omega⟩
                have hVn : V < nk := by omega
                have hno : nam ix k (V + 1) = false := by
                  cases hx : nam ix k (V + 1) with
                  | false => rfl
                  | true =>
                    obtain ⟨_, q, hq, hqe⟩ := (nam_iff ix k (V + 1)).1 hx
                    exact absurd (HDX.out q k (by omega) hlt (by omega) (by omega)) (by omega)
                have g2 : wr.cell? ⟨w5.heap.size + 1, V + 1, none⟩ = some (.bool false) := by rw [← hno]; exact hL.ia.cell (by omega)
                have g3 := hL.ia.frozen (V + 1)
                have HX := hid ((hL.setA (V + 1) true).fg (fun _ => rfl) (fun j => nam_put ix k V hV j))
                have HRE := hid (reach_any (some ⟨wD.heap.size, 0, none⟩) nk nk wX.heap.size 0 N N V K0 K1 ix k (wr.setCell ⟨w5.heap.size + 1, V + 1, none⟩ (.bool true)) HM.out hN hnk hlt HX.out.keys HX.out.got.idx hV hVn)
                have HRT := hid (HRC.out k hlt t1)
                rw [hV] at g1 t1'
                clear hL t1 v1 v2 hV hno
                go_wp2_with fail
                --STOP7
                refine HRE.out.mono ?_
                rintro e w7 ⟨bo, rfl, hw7, hbo⟩
                have hbo' : bo = true := hbo.2 HRT.out
                subst hbo'
                subst hw7
                clear hbo HRE
                go_wp2_with fail
                --STOP8
                go_roundg (N - (k + 1))
                case measure => go_light; omega
                case rel => go_light; exact ⟨k + 1, by omega, rfl, by go_num, HX.out⟩
            · obtain rfl : N = k := by omega
              have HX := hid hL
              clear hL
              go_wp2_with fail
              --STOP9
              go_loopg [17] nk (fun g s17 wx => ∃ v : Nat, 1 ≤ v ∧ v ≤ nk + 1 ∧ g = nk + 1 - v ∧ s17 = .int .i64 v ∧ L4 w wx (some ⟨wD.heap.size, 0, none⟩) nk wX.heap.size N w5.heap.size K0 K1 ix I (nam I N) (nam ix N))
              case atStart => exact ⟨1, by omega, by omega, by omega, rfl, HX.out⟩
              case round =>
                obtain ⟨v, hv1, hv2, rfl, rfl, hL⟩ := hrel
                clear HX
                by_cases hlt : v ≤ nk
                · have g1 := hL.ib.cell (i := v) (by omega)
                  have g2 := hL.ia.cell (i := v) (by omega)
                  have HX := hid hL
                  have hnm := HNM.out (v : Int) (by omega)
                  have hiff : nam ix N v = (nam I N v && ((v : Int) != I (P N e0 r))) := by
                    rw [Bool.eq_iff_iff, nam_iff, Bool.and_eq_true, nam_iff, bne_iff_ne]
                    constructor
                    · rintro ⟨a, q⟩; exact ⟨⟨a, (hnm.1 q).1⟩, (hnm.1 q).2⟩
                    · rintro ⟨⟨a, q⟩, d⟩; exact ⟨a, hnm.2 ⟨q, d⟩⟩
                  rw [hiff] at g2
                  obtain ⟨bb, hbb⟩ : ∃ bb, bb = nam I N v := ⟨_, rfl⟩
                  obtain ⟨dd, hdd⟩ : ∃ dd, dd = ((v : Int) != I (P N e0 r)) := ⟨_, rfl⟩
                  rw [← hbb, ← hdd] at g2
                  rw [← hbb] at g1
                  have hdd' := hdd.symm
                  have hq1 : ((true : Bool) != true) = false := rfl
                  have hq2 : ((false : Bool) != false) = false := rfl
                  clear hL hnm hiff hbb hdd
                  cases bb
                  · go_wp2_with fail
                    --STOPA
                    go_roundg (nk + 1 - (v + 1))
                    case measure => go_light; omega
                    case rel => go_light; exact ⟨v + 1, by omega, by omega, by omega, by go_num, HX.out⟩
                  · cases dd
                    · go_wp2_with fail
                      --STOPB
                      go_roundg (nk + 1 - (v + 1))
                      case measure => go_light; omega
                      case rel => go_light; exact ⟨v + 1, by omega, by omega, by omega, by go_num, HX.out⟩
                    · go_wp2_with fail
                      go_roundg (nk + 1 - (v + 1))
                      case measure => go_light; omega
                      case rel => go_light; exact ⟨v + 1, by omega, by omega, by omega, by go_num, HX.out⟩
                · have HB := hid hL.below
                  clear hL
                  obtain rfl : v = nk + 1 := by omega
                  go_wp2_with fail
                  --STOPC
                  go_ret
                  exact ⟨rfl, HB.out⟩

set_option maxHeartbeats 4000000 in
set_option maxRecDepth 100000 in
theorem law4_none (kc b off N c : Nat) (cell : Int) (K0 K1 I : Nat → Int) (w : World) (hN : N ≤ 4096) (hsum : 0 * 16 + N * 4 ≤ 1048576) (hN1 : 1 ≤ N) (hand : bits .and .i64 (N : Int) ((N : Int) - 1) = 0)
     (hI : IdxF w b off N I) (hb : b < w.heap.size) (hr : ∀ i, i < N → 0 ≤ I i ∧ I i < 4294967296) :
    Calls Try.prog 4 #[.slice none 0 kc, .slice (some ⟨b, off, none⟩) N c, .int .i64 cell] w (LawPost w) := by
  have hk : KeysF w none 0 K0 K1 := fun h => absurd h (Nat.lt_irrefl _)
  have hnk : 0 ≤ 65536 := by omega
  obtain ⟨m, hm31, hpow⟩ := pow_of_and N hN1 (by omega) hand
  have HM := hid (Mask.of hm31 hpow)
  have HD := hid (dom_any none 0 kc b off N c cell K0 K1 I w HM.out hand hN1 hN hnk hk hI hr)
  have HI := hid hI
  have HR := hid hr
  clear hpow hand hI hr hk 
  go_enter Try.func4, Try.ntmps4
  go_wp2_with fail
  refine (bytes10_any _ _ _ _ _ _ _ _).mono ?_
  rintro e w' ⟨bo, rfl, hw⟩
  have hw' := hw.symm
  subst hw'
  clear hw
  cases bo
  · go_wp2_with fail
    go_ret
    exact LawPost.here _
  · go_wp2_with fail
    refine HD.out.mono ?_
    rintro e w2 ⟨bo, rfl, hw2, hbo⟩
    have hw2' := hw2.symm
    subst hw2'
    clear hw2 HD
    cases bo
    · go_wp2_with fail
      go_ret
      exact LawPost.here _
    · obtain ⟨hc0, hc1, hwf⟩ := hbo rfl
      obtain ⟨q, rfl⟩ := Int.eq_ofNat_of_zero_le hc0
      obtain ⟨e0, r, he, hIe, hrN, hP, L⟩ := hwf.places q (by omega)
      have hP' := hP.symm
      subst hP'
      have HW := hid hwf
      have HL := hid L
      have HIe := hid hIe
      have hpq : ((P N e0 r : Nat) : Int) < (N : Int) := hc1
      clear hbo hwf L hIe hP hc0 hc1
      have HDI := hid (dist_any none 0 kc b off N c K0 I w hN hnk HW.out HI.out hb)
      go_wp2_with fail
      refine HDI.out.mono ?_
      rintro e wD ⟨bo, rfl, hBD, hsD, hbo⟩
      have HBD := hid hBD
      have hwD : w.heap.size ≤ wD.heap.size := hBD.size
      have hbo' := hid hbo
      clear hbo hsD HDI hBD
      cases bo
      · go_wp2_with fail
        go_ret
        exact ⟨rfl, HBD.out⟩
      have HDis := hid (hbo'.out rfl)
      clear hbo'
      have hkl := hid (show ∀ p, (none : Option Addr) = some p → p.block < wD.heap.size from fun p hp => by cases hp)
      have HKX : Hid (KeysF wD none 0 K0 K1) := fun h => absurd h (Nat.lt_irrefl _)
      have HBX : Hid (Below w.heap.size w wD) := HBD.out
      have hIX : IdxF wD b off N I := fun i hi => by rw [HBX.out.cell (p := ⟨b, off + i, none⟩) hb]; exact HI.out i hi
      have hbX : b < wD.heap.size := Nat.lt_of_lt_of_le hb HBX.out.size
      have HCL := hid (clone_some b off N c I wD hN hbX hIX)
      have hwx := HBX.out.size
      clear hIX
      go_wp2_with fail
      --STOP1
      skip
      refine HCL.out.mono ?_
      rintro e w3 ⟨rfl, hR3, hB3, hs3⟩
      have HK3 := hid (HKX.out.below hB3 hkl.out)
      have HCL2 := hid (clone_some wD.heap.size 0 N N I w3 hN (by omega) hR3.idx)
      have HR3 := hid hR3
      have HB3 := hid (HBX.out.trans (hB3.mono hwx))
      clear hR3 hB3 HCL
      go_wp2_with fail
      --STOP2
      refine HCL2.out.mono ?_
      rintro e w4 ⟨rfl, hR4, hB4, hs4⟩
      rw [hs3] at hR4 hs4 ⊢
      have HK4 := hid (HK3.out.below hB4 (fun p hp => by have := hkl.out p hp; omega))
      have HZZ := hid (zz_any none 0 kc wD.heap.size N e0 r K0 K1 I w4 HM.out hN hnk HW.out he HIe.out hrN HL.out HK4.out (fun p hp => by have := hkl.out p hp; omega) (HR3.out.below hB4 (by omega)))
      have HR4 := hid hR4
      have HB4 := hid (HB3.out.trans (hB4.mono (by omega)))
      clear hB4 hR4 HCL2 HR3 HK3
      go_wp2_with fail
      --STOP3
      refine HZZ.out.mono ?_
      rintro e w5 ⟨rfl, hR5, hP5, hs5, ix, c5, hT5, hF5, hS5⟩
      have hbe := show Row w5 (wD.heap.size + 1) N I from World.rowIs.of_block HR4.out (hR5.rest _ (by omega) (by omega))
      have HK5 := hid (HK4.out.rst hR5 (fun p hp => by have := hkl.out p hp; omega))
      have HB5 := hid (HB4.out.trans (hR5.below.mono hwx))
      have HRG := hid (fun p hp hne => hF5.range HW.out he p hp hne)
      have HDX := hid (hF5.dis HL.out he hS5.1 (by have := hS5.2.1; omega) HDis.out)
      have HRC := hid (fun p hp hne => hF5.reach HW.out HL.out he HIe.out hS5 p hp hne)
      have HNM := hid (fun v hv => hF5.named HL.out he HIe.out hS5 HDis.out v hv)
      have hlt5 : wD.heap.size + 1 < w5.heap.size := by omega
      have HL4 := hid (L4.start hT5 hbe HK5.out HB5.out hlt5 hwx hkl.out (0 + 1) rfl)
      have g1 := hbe.cell (P_lt hN1 e0 r)
      have hmk := run_make_row' (P := Try.prog) 33 4 (.bool false) 1 Try.underlying33 Try.info4 rfl .i64 .i64 (0 + 1) (by omega) (by omega)
      rw [show ((0 + 1 : Nat) : Int) = 1 by omega] at hmk
      rw [hs4]
      clear hR5 hP5 hT5 hF5 hS5 hbe HR4 HZZ HK4 HB4 HB3 HK5 HB5 hs3 hs4 hs5
      go_wp2_with fail
      --STOP4
      clear g1 hmk
      go_loopg [14] N (fun g s14 wx => ∃ k : Nat, k ≤ N ∧ g = N - k ∧ s14 = .int .i64 k ∧ L4 w wx none 0 wD.heap.size N w5.heap.size K0 K1 ix I (nam I k) (fun _ => false))
      case atStart => exact ⟨0, Nat.zero_le _, rfl, rfl, HL4.out.fg (fun _ => rfl) (fun _ => rfl)⟩
      case round =>
        obtain ⟨k, hk, rfl, rfl, hL⟩ := hrel
        clear HL4
        by_cases hlt : k < N
        · have g1 := hL.bef.cell hlt
          by_cases t1 : I k = 0
          · have t1' : (I k != 0) = false := by rw [t1]; rfl
            have HX := hid (hL.fg (fun j => nam_skip I k t1 j) (fun _ => rfl))
            clear hL t1
            go_wp2_with fail
            go_roundg (N - (k + 1))
            case measure => go_light; omega
            case rel => go_light; exact ⟨k + 1, by omega, rfl, by go_num, HX.out⟩
          · have t1' : (I k != 0) = true := bne_iff_ne.2 t1
            obtain ⟨v1, v2, _⟩ := HW.out.2 k hlt t1
            obtain ⟨V, hV⟩ : ∃ V : Nat, I k = (V : Int) + 1 := ⟨(I k - 1).toNat, by omega⟩
            have hVn : V < 0 := by omega
            exact absurd hVn (Nat.not_lt_zero _)
        · obtain rfl : N = k := by omega
          have HX := hid hL
          clear hL
          go_wp2_with fail
          --STOP6
          go_loopg [15] N (fun g s15 wx => ∃ k : Nat, k ≤ N ∧ g = N - k ∧ s15 = .int .i64 k ∧ L4 w wx none 0 wD.heap.size N w5.heap.size K0 K1 ix I (nam I N) (nam ix k))
          case atStart => exact ⟨0, Nat.zero_le _, rfl, rfl, HX.out.fg (fun _ => rfl) (fun _ => rfl)⟩
          case round =>
            obtain ⟨k, hk, rfl, rfl, hL⟩ := hrel
            clear HX
            by_cases hlt : k < N
            · have g1 := hL.got.cell hlt
              by_cases t1 : ix k = 0
              · have t1' : (ix k == 0) = true := beq_iff_eq.2 t1
                have HX := hid (hL.fg (fun _ => rfl) (fun j => nam_skip ix k t1 j))
                clear hL t1
                go_wp2_with fail
                go_roundg (N - (k + 1))
                case measure => go_light; omega
                case rel => go_light; exact ⟨k + 1, by omega, rfl, by go_num, HX.out⟩
              · have t1' : (ix k == 0) = false := beq_eq_false_iff_ne.2 t1
                obtain ⟨v1, v2⟩ := HRG.out k hlt t1
                obtain ⟨V, hV⟩ : ∃ V : Nat, ix k = (V : Int) + 1 := ⟨(ix k - 1).toNat, by omega⟩
                have hVn : V < 0 := by omega
                exact absurd hVn (Nat.not_lt_zero _)
            · obtain rfl : N = k := by omega
              have HX := hid hL
              clear hL
              go_wp2_with fail
              --STOP9
              go_loopg [17] 0 (fun g s17 wx => ∃ v : Nat, 1 ≤ v ∧ v ≤ 0 + 1 ∧ g = 0 + 1 - v ∧ s17 = .int .i64 v ∧ L4 w wx none 0 wD.heap.size N w5.heap.size K0 K1 ix I (nam I N) (nam ix N))
              case atStart => exact ⟨1, by omega, by omega, by omega, rfl, HX.out⟩
              case round =>
                obtain ⟨v, hv1, hv2, rfl, rfl, hL⟩ := hrel
                clear HX
                by_cases hlt : v ≤ 0
                · exact absurd hlt (by omega)
                · have HB := hid hL.below
                  clear hL
                  obtain rfl : v = 0 + 1 := by omega
                  go_wp2_with fail
                  --STOPC
                  go_ret
                  exact ⟨rfl, HB.out⟩

theorem law4_any (ka ia : Option Addr) (nk kc N c : Nat) (cell : Int) (K0 K1 I : Nat → Int) (w : World) (hka : ka = none → nk = 0) (hk : ∀ p, ka = some p → KeysP w p nk K0 K1)
    (hI : 1 ≤ N → ∃ b off, ia = some ⟨b, off, none⟩ ∧ b < w.heap.size ∧ IdxF w b off N I) (hr : ∀ i, i < N → 0 ≤ I i ∧ I i < 4294967296) :
    Calls Try.prog 4 #[.slice ka nk kc, .slice ia N c, .int .i64 cell] w (LawPost w) := by
  by_cases h1 : 65536 < nk
  · exact law4_big ka ia nk kc N c cell w (.inl h1)
  by_cases h2 : 4096 < N
  · exact law4_big ka ia nk kc N c cell w (.inr (.inl ⟨by omega, h2⟩))
  by_cases h3 : 1048576 < nk * 16 + N * 4
  · exact law4_big ka ia nk kc N c cell w (.inr (.inr ⟨by omega, by omega, h3⟩))
  by_cases h4 : N = 0
  · exact law4_bad ka ia nk kc N c cell w (by omega) (by omega) (by omega) (.inl h4)
  by_cases h5 : bits .and .i64 (N : Int) ((N : Int) - 1) = 0
  · obtain ⟨b, off, rfl, hb, hIx⟩ := hI (by omega)
    cases ka with
    | none =>
      obtain rfl : nk = 0 := hka rfl
      exact law4_none kc b off N c cell K0 K1 I w (by omega) (by omega) (by omega) h5 hIx hb hr
    | some p =>
      exact law4_some p nk kc b off N c cell K0 K1 I w (by omega) (by omega) (by omega) (by omega) h5 (hk p rfl) hIx hb hr
  · exact law4_bad ka ia nk kc N c cell w (by omega) (by omega) (by omega) (.inr h5)
end Go.Proofs.Qxb6623513a
