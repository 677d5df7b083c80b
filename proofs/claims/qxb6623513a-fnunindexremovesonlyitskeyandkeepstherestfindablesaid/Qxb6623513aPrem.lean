/- zzBytes, zzReachable, zzWellFormed, zzInDomain. -/
import Derived.Test.Qxb6623513aClone
import Derived.Test.Qxb6623513aGood
import Derived.Deep.QuietTactic
import Derived.BigQuiet
import Derived.BigRegion
namespace Go.Proofs.Qxb6623513a
open Go.RowKit
set_option linter.unusedVariables false

theorem hid {p : Prop} (h : p) : Hid p := h
def BoolPost (w : World) (e : Ending) (w' : World) : Prop := ∃ bo : Bool, e = .returned (.bool bo) ∧ w' = w
theorem BoolPost.mk (w : World) (bo : Bool) : BoolPost w (.returned (.bool bo)) w := ⟨bo, rfl, rfl⟩

theorem bytes5_any (a0 a1 : Option Addr) (n0 c0 n1 c1 : Nat) (x2 : Int) (w : World) : Calls Try.prog 5 #[.slice a0 n0 c0, .slice a1 n1 c1, .int .i64 x2] w (BoolPost w) := by
  go_enter Try.func5, Try.ntmps5
  go_wp2
  all_goals (go_ret; exact BoolPost.mk _ _)
theorem bytes10_any (a0 a1 : Option Addr) (n0 c0 n1 c1 : Nat) (x2 : Int) (w : World) : Calls Try.prog 10 #[.slice a0 n0 c0, .slice a1 n1 c1, .int .i64 x2] w (BoolPost w) := by
  go_enter Try.func10, Try.ntmps10
  go_wp2
  all_goals (go_ret; exact BoolPost.mk _ _)

/-- The keys' slice reads as the pairs (K0 i, K1 i). -/
def KeysF (w : World) (ka : Option Addr) (nk : Nat) (K0 K1 : Nat → Int) : Prop :=
  0 < nk → ∃ b off, ka = some ⟨b, off, none⟩ ∧ ∀ i, i < nk → w.cell? ⟨b, off + i * 2, none⟩ = some (.int .u64 (K0 i)) ∧ w.cell? ⟨b, off + i * 2 + 1, none⟩ = some (.int .u64 (K1 i))

/-- The index's slice reads as I. -/
def IdxF (w : World) (b off N : Nat) (I : Nat → Int) : Prop := ∀ i, i < N → w.cell? ⟨b, off + i, none⟩ = some (.int .u32 (I i))

def ReachPost (N : Nat) (K I : Nat → Int) (p : Nat) (w : World) (e : Ending) (w' : World) : Prop :=
  ∃ bo : Bool, e = .returned (.bool bo) ∧ w' = w ∧ (bo = true ↔ Reach N K I p)

def Mask (N : Nat) : Prop := (∀ x : Int, bits .and .i64 x ((N : Int) - 1) = x % (N : Int)) ∧ (∀ x : Int, bits .and .u32 x ((N : Int) - 1) = x % (N : Int)) ∧ ∀ x : Int, bits .and .u64 x ((N : Int) - 1) = x % (N : Int)
theorem Mask.of {N m : Nat} (hm : m ≤ 31) (h : N = 2 ^ m) : Mask N := by rw [h]; exact ⟨mask_i64 m hm, mask_u32 m hm, mask_u64 m hm⟩

set_option maxHeartbeats 1000000 in
set_option maxRecDepth 100000 in
theorem reach_any (ka : Option Addr) (nk kc b off N c v : Nat) (K0 K1 I : Nat → Int) (p : Nat) (w : World) (hM : Mask N) (hN : N ≤ 4096) (hnk : nk ≤ 65536) (hp : p < N) (hk : KeysF w ka nk K0 K1) (hI : IdxF w b off N I) (hv : I p = (v : Int) + 1) (hvn : v < nk) :
    Calls Try.prog 12 #[.slice ka nk kc, .slice (some ⟨b, off, none⟩) N c, .int .i64 (p : Int)] w (ReachPost N K0 I p w) := by
  have hN1 : 1 ≤ N := by omega
  have HM := hid hM
  obtain ⟨kb, ko, rfl, hkc⟩ := hk (by omega)
  have g0 := (hkc v hvn).1
  have g1 : w.cell? ⟨b, off + p, none⟩ = some (.int .u32 ((v : Int) + 1)) := by rw [← hv]; exact hI p hp
  have eK : bits .and .u64 (K0 v) ((N : Int) - 1) = ((hm N (Hs K0 I) p : Nat) : Int) := by
    rw [hM.2.2, hm_cast hN1]; unfold Hs; rw [hv]; congr 2; omega
  have hq := hm_lt hN1 (Hs K0 I) p
  have HI := hid hI
  obtain ⟨q0, hq0⟩ : ∃ q, q = hm N (Hs K0 I) p := ⟨_, rfl⟩
  have HQ := hid hq0
  rw [← hq0] at eK hq
  have hq0e : q0 % N = q0 := Nat.mod_eq_of_lt hq
  have HQE := hid hq0e
  clear hkc hv hM hI hk hq0 hq0e
  go_enter Try.func12, Try.ntmps12
  go_wp2
  go_loopg [8, 9] N (fun g s8 s9 wr => wr = w ∧ ∃ k : Nat, k ≤ N ∧ g = N - k ∧ s8 = .int .i64 (((q0 + k) % N : Nat) : Int) ∧ s9 = .int .i64 k ∧ ∀ j, j < k → (q0 + j) % N ≠ p ∧ I ((q0 + j) % N) ≠ 0)
  case atStart => exact ⟨rfl, 0, Nat.zero_le _, rfl, by rw [Nat.add_zero, HQE.out], rfl, fun j hj => absurd hj (Nat.not_lt_zero _)⟩
  case round =>
    obtain ⟨rfl, k, hk, rfl, rfl, rfl, hall⟩ := hrel
    have HA := hid hall
    clear hall g0 g1 eK
    by_cases hlt : k < N
    · obtain ⟨qk, hqk⟩ : ∃ q, q = (q0 + k) % N := ⟨_, rfl⟩
      have hqlt : qk < N := by rw [hqk]; exact Nat.mod_lt _ (by omega)
      have HQK := hid hqk
      rw [← hqk]
      clear hqk
      have g2 := HI.out qk hqlt
      by_cases t1 : qk = p
      · have t1' : ((qk : Int) == (p : Int)) = true := beq_iff_eq.2 (by omega)
        have T1 := hid t1
        clear t1
        go_wp2
        go_ret
        exact ⟨true, rfl, rfl, fun _ => ⟨k, hlt, by rw [← HQ.out, ← HQK.out]; exact T1.out, fun j hj => by rw [← HQ.out]; exact (HA.out j hj).2⟩, fun _ => rfl⟩
      · have t1' : ((qk : Int) == (p : Int)) = false := beq_eq_false_iff_ne.2 (by omega)
        by_cases t2 : I qk = 0
        · have t2' : (I qk == 0) = true := beq_iff_eq.2 t2
          have T2 := hid t2
          clear t2
          go_wp2
          go_ret
          refine ⟨false, rfl, rfl, (fun h => by cases h), fun ⟨d, hd, h1, h2⟩ => ?_⟩
          rw [← HQ.out] at h1 h2
          rcases Nat.lt_trichotomy d k with h | h | h
          · exact absurd h1 (HA.out d h).1
          · subst h; exact absurd (by rw [← HQK.out] at h1; exact h1) t1
          · exact absurd (by rw [← HQK.out]; exact T2.out) (h2 k h)
        · have t2' : (I qk == 0) = false := beq_eq_false_iff_ne.2 t2
          have eQ : bits .and .i64 ((qk : Int) + 1) ((N : Int) - 1) = (((q0 + (k + 1)) % N : Nat) : Int) := by
            rw [HM.out.1, show q0 + (k + 1) = (q0 + k) + 1 by omega, Nat.add_mod (q0 + k) 1 N, ← HQK.out, Nat.add_mod_mod, Int.natCast_emod]; simp
          have HN := hid (show ∀ j, j < k + 1 → (q0 + j) % N ≠ p ∧ I ((q0 + j) % N) ≠ 0 from fun j hj => by
            by_cases e : j = k
            · subst e; rw [← HQK.out]; exact ⟨t1, t2⟩
            · exact HA.out j (by omega))
          go_wp2
          go_roundg (N - (k + 1))
          case measure => go_light; omega
          case rel => go_light; exact ⟨rfl, k + 1, by omega, rfl, rfl, by go_num, HN.out⟩
    · obtain rfl : N = k := by omega
      go_wp2
      go_ret
      refine ⟨false, rfl, rfl, (fun h => by cases h), fun ⟨d, hd, h1, h2⟩ => ?_⟩
      rw [← HQ.out] at h1
      exact absurd h1 (HA.out d hd).1
end Go.Proofs.Qxb6623513a
