/- zzClearAndReinsert. -/
import Derived.Test.Qxb6623513aDom
namespace Go.Proofs.Qxb6623513a
open Go.RowKit
set_option linter.unusedVariables false

def RePost (e0 r N : Nat) (K0 I : Nat → Int) (w : World) (e : Ending) (w' : World) : Prop :=
  e = .returned (.slice (some ⟨w.heap.size, 0, none⟩) N N) ∧ Below w.heap.size w w' ∧ w'.heap.size = w.heap.size + 1 ∧ ∃ rr c, Row w' w.heap.size N rr ∧ Clr N e0 K0 I r c rr ∧ StopAt N e0 I r c

set_option maxHeartbeats 1000000 in
set_option maxRecDepth 100000 in
theorem reinsert_any (ka : Option Addr) (nk kc b off N c0 e0 r : Nat) (K0 K1 I : Nat → Int) (w : World) (hM : Mask N) (hN : N ≤ 4096) (hnk : nk ≤ 65536) (hw : WF N nk K0 I) (he : e0 < N) (hIe : I e0 = 0) (hr : r < N) (L : Pl.Lin N r (kkOf N e0 (Hs K0 I)) (ocOf N e0 I))
    (hk : KeysF w ka nk K0 K1) (hkb : ∀ p, ka = some p → p.block < w.heap.size) (hI : IdxF w b off N I) (hb : b < w.heap.size) :
    Calls Try.prog 8 #[.slice ka nk kc, .slice (some ⟨b, off, none⟩) N c0, .int .i64 (P N e0 r : Nat)] w (RePost e0 r N K0 I w) := by
  have hN1 : 1 ≤ N := by omega
  have HC := hid (clone_some b off N c0 I w hN hb hI)
  have HM := hid hM
  have HW := hid hw
  have HL := hid L
  have HK := hid hk
  have HKB := hid hkb
  have HI := hid hI
  have hpr := P_lt hN1 e0 r
  have eQ : bits .and .i64 ((P N e0 r : Int) + 1) ((N : Int) - 1) = ((P N e0 (r + 1) : Nat) : Int) := by rw [hM.1, P_succ hN1, Int.natCast_emod]; simp
  clear hM hw L hIe hI hk hkb
  go_enter Try.func8, Try.ntmps8
  go_wp2_with fail
  refine HC.out.mono ?_
  rintro e w1 ⟨rfl, hR, hB, hs⟩
  have g1 := hR.cell hpr
  have g2 := hR.frozen (P N e0 r)
  have HR := hid ((hR.set (P N e0 r) 0))
  have HB := hid (hB.setCell (p := ⟨w.heap.size, P N e0 r, none⟩) (Nat.le_refl _) (.int .u32 0))
  have HS := hid (show (w1.setCell ⟨w.heap.size, P N e0 r, none⟩ (.int .u32 0)).heap.size = w.heap.size + 1 by simp [hs])
  clear hR hB hs
  go_wp2_with fail
  clear g1 g2 eQ HC
  go_loopg [10, 11] (N - r) (fun g s10 s11 wx => ∃ c : Nat, r ≤ c ∧ c + 1 ≤ N ∧ g = N - c ∧ s10 = .int .i64 (P N e0 (c + 1)) ∧ s11 = .int .i64 ((c - r : Nat) : Int) ∧ Below w.heap.size w wx ∧ wx.heap.size = w.heap.size + 1 ∧ (∀ t, r < t → t ≤ c → I (P N e0 t) ≠ 0) ∧ ∃ rr, Row wx w.heap.size N rr ∧ Clr N e0 K0 I r c rr)
  case atStart => exact ⟨r, Nat.le_refl _, by omega, rfl, rfl, by simp, HB.out, HS.out, fun t h1 h2 => absurd h1 (by omega), _, HR.out, Clr.start HL.out⟩
  case round =>
    obtain ⟨c, hc1, hc2, rfl, rfl, rfl, hB, hsz, hall, rr, hR, hF⟩ := hrel
    clear HB HR HS
    have hpj := P_lt hN1 e0 (c + 1)
    have x0 : wr.cell? ⟨b, off + P N e0 (c + 1), none⟩ = some (.int .u32 (I (P N e0 (c + 1)))) := by rw [hB.cell (p := ⟨b, off + P N e0 (c + 1), none⟩) hb]; exact HI.out _ hpj
    have HA := hid hall
    have HB := hid hB
    clear hall hB
    by_cases u1 : I (P N e0 (c + 1)) = 0
    · have v1 : (I (P N e0 (c + 1)) != 0) = false := by rw [u1]; rfl
      have HF := hid hF
      have HR := hid hR
      have HU := hid u1
      clear hF hR u1
      go_wp2_with fail
      go_ret
      exact ⟨rfl, HB.out, hsz, rr, c, HR.out, HF.out, hc1, hc2, HU.out, HA.out⟩
    · have v1 : (I (P N e0 (c + 1)) != 0) = true := bne_iff_ne.2 u1
      obtain ⟨w1, w2, w3⟩ := HW.out.2 _ hpj u1
      obtain ⟨v, hv⟩ : ∃ v : Nat, I (P N e0 (c + 1)) = (v : Int) + 1 := ⟨(I (P N e0 (c + 1)) - 1).toNat, by omega⟩
      have hvn : v < nk := by omega
      have HRow := hid hR
      have HClr := hid hF
      obtain ⟨kb, ko, rfl, hkc⟩ := HK.out (by omega)
      have hkb := HKB.out _ rfl
      have y0 : (wr.setCell ⟨w.heap.size, P N e0 (c + 1), none⟩ (.int .u32 0)).cell? ⟨kb, ko + v * 2, none⟩ = some (.int .u64 (K0 v)) := by
        rw [World.cell?_setCell_other _ _ _ _ (fun e => by have := congrArg Addr.block e; simp at this hkb; omega), HB.out.cell (p := ⟨kb, ko + v * 2, none⟩) hkb]
        exact (hkc v hvn).1
      have x1 := hR.cell hpj
      have x2 := hR.frozen (P N e0 (c + 1))
      rw [hF.next he HL.out hc2 u1] at x1
      have HR0 := hid (hR.set (P N e0 (c + 1)) 0)
      have hd := dst_range (r := r) HL.out hc2 u1
      have eK : bits .and .u64 (K0 v) ((N : Int) - 1) = ((P N e0 (kkOf N e0 (Hs K0 I) (c + 1)) : Nat) : Int) := by
        have hdd := (reach_dsp (K := K0) he (by have := HL.out.ocN; rw [ocOf_false, P_N he] at this; exact this) (c + 1) (by omega) hc2 w3).1
        have hh := home hN1 e0 (Hs K0 I) (c + 1) (by omega)
        unfold kkOf
        rw [← hh, HM.out.2.2, hm_cast hN1]; unfold Hs; rw [hv]; congr 2; omega
      have hpk := P_lt hN1 e0 (kkOf N e0 (Hs K0 I) (c + 1))
      have eQ : bits .and .i64 ((P N e0 (c + 1) : Int) + 1) ((N : Int) - 1) = ((P N e0 (c + 1 + 1) : Nat) : Int) := by rw [HM.out.1, P_succ hN1 e0 (c + 1), Int.natCast_emod]; simp
      have hcN : c + 1 < N := HL.out.tlt hc2 (ocOf_true.2 u1)
      have HN := hid (show ∀ t, r < t → t ≤ c + 1 → I (P N e0 t) ≠ 0 from fun t h1 h2 => by
        by_cases e : t = c + 1
        · subst e; exact u1
        · exact HA.out t h1 (by omega))
      have HU := hid u1
      have HV := hid hv
      rw [hv] at x0 x1 v1
      clear hR hF hkc hv w1 w2 w3 u1 HA
      go_wp2_with fail
      obtain ⟨wz, hwz⟩ : ∃ wz, wz = wr.setCell ⟨w.heap.size, P N e0 (c + 1), none⟩ (.int .u32 0) := ⟨_, rfl⟩
      have hR1 : Row wz w.heap.size N (fun j => if j = P N e0 (c + 1) then 0 else rr j) := by rw [hwz]; exact HR0.out
      have HB1 : Hid (Below w.heap.size w wz) := by rw [hwz]; exact HB.out.setCell (Nat.le_refl _) _
      have hz1 : wz.heap.size = w.heap.size + 1 := by rw [hwz]; simp [hsz]
      simp only [← hwz]
      clear hwz x0 x1 x2 y0 v1 eK HR0 HB
      go_loopg [13, 14] (dstOf N e0 K0 I r c - kkOf N e0 (Hs K0 I) (c + 1)) (fun g s13 s14 wx => wx = wz ∧ ∃ s : Nat, kkOf N e0 (Hs K0 I) (c + 1) ≤ s ∧ s ≤ dstOf N e0 K0 I r c ∧ g = dstOf N e0 K0 I r c - s ∧ s13 = .int .i64 (P N e0 s) ∧ s14 = .int .i64 ((s - kkOf N e0 (Hs K0 I) (c + 1) : Nat) : Int))
      case atStart => exact ⟨rfl, kkOf N e0 (Hs K0 I) (c + 1), Nat.le_refl _, hd.1, rfl, rfl, by simp⟩
      case round =>
        obtain ⟨rfl, s, hs1, hs2, rfl, rfl, rfl⟩ := hrel
        have hps := P_lt hN1 e0 s
        have g4 := hR1.cell hps
        by_cases hlt3 : s < dstOf N e0 K0 I r c
        · have v1 : ((if P N e0 s = P N e0 (c + 1) then 0 else rr (P N e0 s)) != 0) = true := bne_iff_ne.2 (HClr.out.full he HL.out hc2 HU.out s hs1 hlt3)
          have eQ : bits .and .i64 ((P N e0 s : Int) + 1) ((N : Int) - 1) = ((P N e0 (s + 1) : Nat) : Int) := by rw [HM.out.1, P_succ hN1, Int.natCast_emod]; simp
          obtain ⟨val, hval⟩ : ∃ val : Int, val = if P N e0 s = P N e0 (c + 1) then 0 else rr (P N e0 s) := ⟨_, rfl⟩
          rw [← hval] at v1 g4
          clear hval hR1
          go_wp2_with fail
          go_roundg (dstOf N e0 K0 I r c - (s + 1))
          case measure => go_light; omega
          case rel => go_light; exact ⟨rfl, s + 1, by omega, by omega, rfl, rfl, by go_num⟩
        · obtain rfl : s = dstOf N e0 K0 I r c := by omega
          have g4' : wr.cell? ⟨w.heap.size, P N e0 (dstOf N e0 K0 I r c), none⟩ = some (.int .u32 0) := by rw [g4, HClr.out.free HL.out hc2 HU.out]
          have hsl : ((dstOf N e0 K0 I r c - kkOf N e0 (Hs K0 I) (c + 1) : Nat) : Int) < (N : Int) := by omega
          have g6 := hR1.frozen (P N e0 (dstOf N e0 K0 I r c))
          have HR2 := hid (hR1.set (P N e0 (dstOf N e0 K0 I r c)) ((v : Int) + 1))
          have HF2 : Hid (Clr N e0 K0 I r (c + 1) (fun j => if j = P N e0 (dstOf N e0 K0 I r c) then ((v : Int) + 1) else if j = P N e0 (c + 1) then 0 else rr j)) := by
            have := HClr.out.step he HL.out hc1 hc2 HU.out
            rw [HV.out] at this
            exact this
          clear g4 hR1
          go_wp2_with fail
          go_roundg (N - (c + 1))
          case measure => go_light; omega
          case rel => go_light; exact ⟨c + 1, by omega, by omega, rfl, rfl, by go_num, HB1.out.setCell (Nat.le_refl _) _, by simp [hz1], HN.out, _, HR2.out, HF2.out⟩
end Go.Proofs.Qxb6623513a
