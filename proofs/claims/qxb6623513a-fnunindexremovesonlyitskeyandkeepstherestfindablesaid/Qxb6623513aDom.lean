/- zzWellFormed, zzInDomain. -/
import Derived.Test.Qxb6623513aPrem
namespace Go.Proofs.Qxb6623513a
open Go.RowKit
set_option linter.unusedVariables false

def WFPost (N nk : Nat) (K I : Nat → Int) (w : World) (e : Ending) (w' : World) : Prop := ∃ bo : Bool, e = .returned (.bool bo) ∧ w' = w ∧ (bo = true → WF N nk K I)
theorem WFPost.no {N nk : Nat} {K I : Nat → Int} {w : World} : WFPost N nk K I w (.returned (.bool false)) w := ⟨false, rfl, rfl, fun h => by cases h⟩

set_option maxHeartbeats 1000000 in
set_option maxRecDepth 100000 in
theorem wf_any (ka : Option Addr) (nk kc b off N c : Nat) (K0 K1 I : Nat → Int) (w : World) (hM : Mask N) (hN1 : 1 ≤ N) (hN : N ≤ 4096) (hnk : nk ≤ 65536) (hk : KeysF w ka nk K0 K1) (hI : IdxF w b off N I) (hr : ∀ i, i < N → 0 ≤ I i ∧ I i < 4294967296) :
    Calls Try.prog 13 #[.slice ka nk kc, .slice (some ⟨b, off, none⟩) N c] w (WFPost N nk K0 I w) := by
  have HM := hid hM
  have HI := hid hI
  have HK := hid hk
  have HR := hid hr
  clear hM hI hk hr
  go_enter Try.func13, Try.ntmps13
  go_wp2
  go_loopg [5, 6] N (fun g s5 s6 wr => wr = w ∧ ∃ (k : Nat) (hz : Bool), k ≤ N ∧ g = N - k ∧ s5 = .bool hz ∧ s6 = .int .i64 k ∧ (hz = true → ∃ z, z < N ∧ I z = 0) ∧ ∀ p, p < k → I p ≠ 0 → 1 ≤ I p ∧ I p ≤ (nk : Int) ∧ Reach N K0 I p)
  case atStart => exact ⟨rfl, 0, false, Nat.zero_le _, rfl, rfl, rfl, (fun h => by cases h), fun p hp => absurd hp (Nat.not_lt_zero _)⟩
  case round =>
    obtain ⟨rfl, k, hz, hk, rfl, rfl, rfl, hzz, hall⟩ := hrel
    have HZ := hid hzz
    have HA := hid hall
    clear hzz hall
    by_cases hlt : k < N
    · have g1 := HI.out k hlt
      obtain ⟨r0, r1⟩ := HR.out k hlt
      by_cases t1 : I k = 0
      · have t1' : (I k == 0) = true := beq_iff_eq.2 t1
        have T1 := hid t1
        clear t1
        go_wp2
        go_roundg (N - (k + 1))
        case measure => go_light; omega
        case rel =>
          go_light
          refine ⟨rfl, k + 1, true, by omega, rfl, rfl, by go_num, fun _ => ⟨k, hlt, T1.out⟩, fun p hp hne => ?_⟩
          by_cases e : p = k
          · subst e; exact absurd T1.out hne
          · exact HA.out p (by omega) hne
      · have t1' : (I k == 0) = false := beq_eq_false_iff_ne.2 t1
        by_cases t2 : (nk : Int) < I k
        · go_wp2_with fail
          go_ret
          exact WFPost.no
        · obtain ⟨v, hv⟩ : ∃ v : Nat, I k = (v : Int) + 1 := ⟨(I k - 1).toNat, by omega⟩
          have HV := hid hv
          have HRE := hid (reach_any ka nk kc b off N c v K0 K1 I k wr HM.out hN hnk hlt HK.out HI.out hv (by omega))
          clear hv
          go_wp2_with fail
          refine HRE.out.mono ?_
          rintro e w2 ⟨bo, rfl, hw2, hbo⟩
          have hw2' := hw2.symm
          subst hw2'
          clear hw2
          cases bo
          · go_wp2_with fail
            go_ret
            exact WFPost.no
          · have HB := hid (hbo.1 rfl)
            clear hbo
            go_wp2_with fail
            go_roundg (N - (k + 1))
            case measure => go_light; omega
            case rel =>
              go_light
              refine ⟨rfl, k + 1, hz, by omega, rfl, rfl, by go_num, HZ.out, fun p hp hne => ?_⟩
              by_cases e : p = k
              · subst e; exact ⟨by omega, by omega, HB.out⟩
              · exact HA.out p (by omega) hne
    · obtain rfl : N = k := by omega
      go_wp2
      go_ret
      exact ⟨hz, rfl, rfl, fun h => ⟨HZ.out h, HA.out⟩⟩

def DomPost (N nk : Nat) (K I : Nat → Int) (cell : Int) (w : World) (e : Ending) (w' : World) : Prop := ∃ bo : Bool, e = .returned (.bool bo) ∧ w' = w ∧ (bo = true → 0 ≤ cell ∧ cell < (N : Int) ∧ WF N nk K I)
theorem DomPost.no {N nk : Nat} {K I : Nat → Int} {cell : Int} {w : World} : DomPost N nk K I cell w (.returned (.bool false)) w := ⟨false, rfl, rfl, fun h => by cases h⟩

set_option maxHeartbeats 1000000 in
theorem dom_bad (ka : Option Addr) (nk kc : Nat) (a : Option Addr) (N c : Nat) (cell : Int) (w : World) (hN : N ≤ 4096) (hbad : N = 0 ∨ bits .and .i64 (N : Int) ((N : Int) - 1) ≠ 0) :
    Calls Try.prog 6 #[.slice ka nk kc, .slice a N c, .int .i64 cell] w fun e w' => e = .returned (.bool false) ∧ w' = w := by
  by_cases e2 : N = 0
  · subst e2
    clear hbad
    go_enter Try.func6, Try.ntmps6
    go_wp2
    go_ret
    exact ⟨rfl, rfl⟩
  · have e2' : ((N : Int) == 0) = false := beq_eq_false_iff_ne.2 (by omega)
    have e3' : (bits .and .i64 (N : Int) ((N : Int) - 1) != 0) = true := bne_iff_ne.2 (by
      rcases hbad with h | h
      · exact absurd h e2
      · exact h)
    clear hbad
    go_enter Try.func6, Try.ntmps6
    go_wp2
    go_ret
    exact ⟨rfl, rfl⟩

set_option maxHeartbeats 1000000 in
theorem dom_any (ka : Option Addr) (nk kc b off N c : Nat) (cell : Int) (K0 K1 I : Nat → Int) (w : World) (hM : Mask N) (hand : bits .and .i64 (N : Int) ((N : Int) - 1) = 0) (hN1 : 1 ≤ N) (hN : N ≤ 4096) (hnk : nk ≤ 65536) (hk : KeysF w ka nk K0 K1) (hI : IdxF w b off N I) (hr : ∀ i, i < N → 0 ≤ I i ∧ I i < 4294967296) :
    Calls Try.prog 6 #[.slice ka nk kc, .slice (some ⟨b, off, none⟩) N c, .int .i64 cell] w (DomPost N nk K0 I cell w) := by
  have HW := hid (wf_any ka nk kc b off N c K0 K1 I w hM hN1 hN hnk hk hI hr)
  have e2' : ((N : Int) == 0) = false := beq_eq_false_iff_ne.2 (by omega)
  have e3' : (bits .and .i64 (N : Int) ((N : Int) - 1) != 0) = false := by rw [hand]; rfl
  clear hM hk hI hr hand
  by_cases t1 : cell < 0
  · go_enter Try.func6, Try.ntmps6
    go_wp2_with fail
    go_ret
    exact DomPost.no
  · by_cases t2 : (N : Int) ≤ cell
    · go_enter Try.func6, Try.ntmps6
      go_wp2_with fail
      go_ret
      exact DomPost.no
    · go_enter Try.func6, Try.ntmps6
      go_wp2_with fail
      refine HW.out.mono ?_
      rintro e w2 ⟨bo, rfl, hw2, hbo⟩
      have hw2' := hw2.symm
      subst hw2'
      clear hw2
      have HB := hid hbo
      clear hbo
      go_wp2_with fail
      go_ret
      exact ⟨bo, rfl, rfl, fun h => ⟨by omega, by omega, HB.out h⟩⟩
end Go.Proofs.Qxb6623513a
