/- zzBytes, zzRemovePremise. -/
import Derived.Test.Qxb6623391aClone
import Derived.Test.Qxb6623391aGood
namespace Go.Proofs.Qxb6623391a
open Go.RowKit
set_option linter.unusedVariables false

theorem bytes_any (a0 a1 : Option Addr) (n0 c0 n1 c1 : Nat) (x2 x3 x4 x5 : Int) (w : World) (h0 : n0 ≤ maxLen) (h1 : n1 ≤ maxLen) :
    Calls Try.prog 4 #[.slice a0 n0 c0, .slice a1 n1 c1, .int .i64 x2, .int .u32 x3, .int .u32 x4, .int .u32 x5] w fun e w' => ∃ bo : Bool, e = .returned (.bool bo) ∧ w' = w := by
  unfold maxLen at h0 h1
  go_enter Try.func4, Try.ntmps4
  go_wp2
  all_goals (go_ret; exact ⟨_, rfl, rfl⟩)

def L1 (S : Nat → Int) (n : Int) (i : Nat) (e cnt pos : Int) : Prop :=
  ((e = -1 ∧ ∀ j, j < i → S j ≠ 0) ∨ (∃ e' : Nat, e = e' ∧ e' < i ∧ S e' = 0 ∧ ∀ j, j < e' → S j ≠ 0)) ∧
  (cnt = 0 → ∀ j, j < i → S j ≠ n) ∧ (cnt = 1 → ∃ q : Nat, pos = q ∧ q < i ∧ S q = n ∧ ∀ j, j < i → S j = n → j = q)

theorem L1.start (S : Nat → Int) (n : Int) : L1 S n 0 (-1) 0 (-1) :=
  ⟨.inl ⟨rfl, fun j hj => absurd hj (Nat.not_lt_zero _)⟩, fun _ j hj => absurd hj (Nat.not_lt_zero _), fun h => by omega⟩

theorem L1.keepCnt {S : Nat → Int} {n : Int} {i : Nat} {cnt pos : Int} (hx : S i ≠ n)
    (h : (cnt = 0 → ∀ j, j < i → S j ≠ n) ∧ (cnt = 1 → ∃ q : Nat, pos = q ∧ q < i ∧ S q = n ∧ ∀ j, j < i → S j = n → j = q)) :
    (cnt = 0 → ∀ j, j < i + 1 → S j ≠ n) ∧ (cnt = 1 → ∃ q : Nat, pos = q ∧ q < i + 1 ∧ S q = n ∧ ∀ j, j < i + 1 → S j = n → j = q) := by
  refine ⟨fun h0 j hj => ?_, fun h1 => ?_⟩
  · by_cases e : j = i
    · subst e; exact hx
    · exact h.1 h0 j (by omega)
  · obtain ⟨q, a, b, c, d⟩ := h.2 h1
    refine ⟨q, a, by omega, c, fun j hj hS => ?_⟩
    by_cases e : j = i
    · subst e; exact absurd hS hx
    · exact d j (by omega) hS

theorem L1.keepE {S : Nat → Int} {i : Nat} {e : Int} (hx : S i ≠ 0 ∨ 0 ≤ e)
    (h : (e = -1 ∧ ∀ j, j < i → S j ≠ 0) ∨ (∃ e' : Nat, e = e' ∧ e' < i ∧ S e' = 0 ∧ ∀ j, j < e' → S j ≠ 0)) :
    (e = -1 ∧ ∀ j, j < i + 1 → S j ≠ 0) ∨ (∃ e' : Nat, e = e' ∧ e' < i + 1 ∧ S e' = 0 ∧ ∀ j, j < e' → S j ≠ 0) := by
  rcases h with ⟨a, b⟩ | ⟨e', a, b, c, d⟩
  · refine .inl ⟨a, fun j hj => ?_⟩
    by_cases e : j = i
    · subst e
      rcases hx with hx | hx
      · exact hx
      · omega
    · exact b j (by omega)
  · exact .inr ⟨e', a, by omega, c, d⟩

theorem L1.zeroFirst {S : Nat → Int} {n : Int} {i : Nat} {e cnt pos : Int} (h : L1 S n i e cnt pos) (hn : n ≠ 0) (hS : S i = 0) (he : e < 0) : L1 S n (i + 1) i cnt pos := by
  refine ⟨.inr ⟨i, rfl, by omega, hS, ?_⟩, L1.keepCnt (by rw [hS]; exact fun h => hn h.symm) h.2⟩
  rcases h.1 with ⟨a, b⟩ | ⟨e', a, b, c, d⟩
  · exact b
  · omega
theorem L1.zeroMore {S : Nat → Int} {n : Int} {i : Nat} {e cnt pos : Int} (h : L1 S n i e cnt pos) (hn : n ≠ 0) (hS : S i = 0) (he : ¬ e < 0) : L1 S n (i + 1) e cnt pos :=
  ⟨L1.keepE (.inr (by omega)) h.1, L1.keepCnt (by rw [hS]; exact fun h => hn h.symm) h.2⟩
theorem L1.other {S : Nat → Int} {n : Int} {i : Nat} {e cnt pos : Int} (h : L1 S n i e cnt pos) (hS : S i ≠ 0) (hx : S i ≠ n) : L1 S n (i + 1) e cnt pos :=
  ⟨L1.keepE (.inl hS) h.1, L1.keepCnt hx h.2⟩
theorem L1.hit {S : Nat → Int} {n : Int} {i : Nat} {e cnt pos : Int} (h : L1 S n i e cnt pos) (h0 : 0 ≤ cnt) (hS : S i ≠ 0) (hx : S i = n) : L1 S n (i + 1) e (cnt + 1) i := by
  refine ⟨L1.keepE (.inl hS) h.1, fun h1 => by omega, fun h1 => ⟨i, rfl, by omega, hx, fun j hj hj2 => ?_⟩⟩
  by_cases e : j = i
  · exact e
  · exact absurd hj2 (h.2.1 (by omega) j (by omega))

def L2 (N e : Nat) (H S : Nat → Int) (t run : Nat) : Prop :=
  (∀ s, t - run ≤ s → s < t → S (P N e s) ≠ 0) ∧ ∀ s, 1 ≤ s → s < t → S (P N e s) ≠ 0 → dsp N e H s < s ∧ ∀ u, s - dsp N e H s ≤ u → u ≤ s → S (P N e u) ≠ 0

theorem L2.start (N e : Nat) (H S : Nat → Int) : L2 N e H S 1 0 := ⟨fun s h1 h2 => by omega, fun s h1 h2 => by omega⟩
theorem L2.zero {N e : Nat} {H S : Nat → Int} {t run : Nat} (h : L2 N e H S t run) (hS : S (P N e t) = 0) : L2 N e H S (t + 1) 0 := by
  refine ⟨fun s h1 h2 => by omega, fun s h1 h2 h3 => ?_⟩
  by_cases e1 : s = t
  · subst e1; exact absurd hS h3
  · exact h.2 s h1 (by omega) h3
theorem L2.more {N e : Nat} {H S : Nat → Int} {t run : Nat} (h : L2 N e H S t run) (hr : run < t) (hS : S (P N e t) ≠ 0) (hd : dsp N e H t < run + 1) : L2 N e H S (t + 1) (run + 1) := by
  refine ⟨fun s h1 h2 => ?_, fun s h1 h2 h3 => ?_⟩
  · by_cases e1 : s = t
    · subst e1; exact hS
    · exact h.1 s (by omega) (by omega)
  · by_cases e1 : s = t
    · subst e1
      refine ⟨by omega, fun u hu1 hu2 => ?_⟩
      by_cases e2 : u = s
      · subst e2; exact hS
      · exact h.1 u (by omega) (by omega)
    · exact h.2 s h1 (by omega) h3

def PremPost (N : Nat) (H S : Nat → Int) (h n : Int) (w : World) (e : Ending) (w' : World) : Prop :=
  ∃ bo : Bool, e = .returned (.bool bo) ∧ w' = w ∧ (bo = true → ∃ e0, Good N e0 H S h n)
theorem PremPost.no {N : Nat} {H S : Nat → Int} {h n : Int} {w : World} : PremPost N H S h n w (.returned (.bool false)) w := ⟨false, rfl, rfl, fun h => by cases h⟩

set_option maxHeartbeats 1000000 in
set_option maxRecDepth 100000 in
theorem prem_main (b0 o0 c0 b1 o1 c1 N m : Nat) (H S : Nat → Int) (h n : Int) (w : World) (hm31 : m ≤ 31) (hpow : N = 2 ^ m) (hN1 : 1 ≤ N) (hN : N ≤ 4096) (hn : n ≠ 0)
    (hH : ∀ i, i < N → w.cell? ⟨b0, o0 + i, none⟩ = some (.int .u32 (H i))) (hS : ∀ i, i < N → w.cell? ⟨b1, o1 + i, none⟩ = some (.int .u32 (S i)))
    (hand : bits .and .i64 (N : Int) ((N : Int) - 1) = 0) :
    Calls Try.prog 5 #[.slice (some ⟨b0, o0, none⟩) N c0, .slice (some ⟨b1, o1, none⟩) N c1, .int .u32 h, .int .u32 n] w (PremPost N H S h n w) := by
  have HM : Hid ((∀ x : Int, bits .and .i64 x ((N : Int) - 1) = x % (N : Int)) ∧ (∀ x : Int, bits .and .u32 x ((N : Int) - 1) = x % (N : Int))) := by
    rw [hpow]; exact ⟨mask_i64 m hm31, mask_u32 m hm31⟩
  have HP : Hid (∃ m, m ≤ 31 ∧ N = 2 ^ m) := ⟨m, hm31, hpow⟩
  have hN0 : ((N : Int) == 0) = false := beq_eq_false_iff_ne.2 (by omega)
  have hn0 : (n == 0) = false := beq_eq_false_iff_ne.2 hn
  clear hpow
  go_enter Try.func5, Try.ntmps5
  go_wp2
  go_loopg [11, 12, 13, 14] N (fun g s11 s12 s13 s14 wr => wr = w ∧ ∃ (i : Nat) (e cnt pos : Int), i ≤ N ∧ g = N - i ∧ s11 = .int .i64 e ∧ s12 = .int .i64 cnt ∧ s13 = .int .i64 pos ∧ s14 = .int .i64 i ∧ 0 ≤ cnt ∧ cnt ≤ i ∧ L1 S n i e cnt pos)
  case atStart => exact ⟨rfl, 0, -1, 0, -1, Nat.zero_le _, rfl, rfl, rfl, rfl, rfl, by omega, by omega, L1.start S n⟩
  case round =>
    obtain ⟨rfl, i, e, cnt, pos, hi, rfl, rfl, rfl, rfl, rfl, hc0, hc1, hL⟩ := hrel
    by_cases hlt : i < N
    · have g1 := hS i hlt
      by_cases t1 : S i = 0
      · have t1' : (S i == 0) = true := beq_iff_eq.2 t1
        have T1 : Hid (S i = 0) := t1
        clear t1
        by_cases t2 : e < 0
        · go_wp2
          go_roundg (N - (i + 1))
          case measure => go_light; omega
          case rel => go_light; exact ⟨rfl, i + 1, _, _, _, by omega, rfl, rfl, rfl, rfl, by go_num, hc0, by omega, hL.zeroFirst hn T1.out t2⟩
        · go_wp2
          go_roundg (N - (i + 1))
          case measure => go_light; omega
          case rel => go_light; exact ⟨rfl, i + 1, _, _, _, by omega, rfl, rfl, rfl, rfl, by go_num, hc0, by omega, hL.zeroMore hn T1.out (by omega)⟩
      · have t1' : (S i == 0) = false := beq_eq_false_iff_ne.2 t1
        by_cases t2 : S i = n
        · have t2' : (S i == n) = true := beq_iff_eq.2 t2
          have T2 : Hid (S i = n) := t2
          clear t2
          go_wp2
          go_roundg (N - (i + 1))
          case measure => go_light; omega
          case rel => go_light; exact ⟨rfl, i + 1, _, _, _, by omega, rfl, rfl, rfl, rfl, by go_num, by omega, by omega, hL.hit hc0 t1 T2.out⟩
        · have t2' : (S i == n) = false := beq_eq_false_iff_ne.2 t2
          go_wp2
          go_roundg (N - (i + 1))
          case measure => go_light; omega
          case rel => go_light; exact ⟨rfl, i + 1, _, _, _, by omega, rfl, rfl, rfl, rfl, by go_num, by omega, by omega, hL.other t1 t2⟩
    · obtain rfl : i = N := by omega
      by_cases t1 : e < 0
      · go_wp2
        go_ret
        exact PremPost.no
      · by_cases t2 : cnt = 1
        · obtain ⟨q, rfl, hq, hSq, huq⟩ := hL.2.2 t2
          obtain ⟨e0, rfl, he0, hSe, hfe⟩ : ∃ e' : Nat, e = e' ∧ e' < i ∧ S e' = 0 ∧ ∀ j, j < e' → S j ≠ 0 := by
            rcases hL.1 with ⟨a, _⟩ | x
            · omega
            · exact x
          subst t2
          have HE : Hid (S e0 = 0 ∧ (∀ j, j < e0 → S j ≠ 0) ∧ S q = n ∧ ∀ j, j < i → S j = n → j = q) := ⟨hSe, hfe, hSq, huq⟩
          clear hL hSe hfe hSq huq
          have g2 := hH q hq
          by_cases t3 : H q = h
          · have t3' : (H q != h) = false := by simp [t3]
            have T3 : Hid (H q = h) := t3
            clear t3
            clear g2
            go_wp2
            go_loopg [15, 16] i (fun g s15 s16 wx => wx = wr ∧ ∃ (t run : Nat), 1 ≤ t ∧ t ≤ i + 1 ∧ g = i + 1 - t ∧ run < t ∧ s15 = .int .i64 run ∧ s16 = .int .i64 t ∧ L2 i e0 H S t run)
            case atStart => exact ⟨rfl, 1, 0, by omega, by omega, by omega, by omega, rfl, rfl, L2.start _ _ _ _⟩
            case round =>
              obtain ⟨rfl, t, run, ht1, ht2, rfl, hr, rfl, rfl, hL2⟩ := hrel
              by_cases hlt2 : t ≤ i
              · have eP : bits .and .i64 ((e0 : Int) + (t : Int)) ((i : Int) - 1) = ((P i e0 t : Nat) : Int) := by rw [HM.out.1, P_cast]
                have hp := P_lt hN1 e0 t
                have g3 := hS (P i e0 t) hp
                have g4 := hH (P i e0 t) hp
                by_cases u1 : S (P i e0 t) = 0
                · have u1' : (S (P i e0 t) == 0) = true := beq_iff_eq.2 u1
                  have U1 : Hid (S (P i e0 t) = 0) := u1
                  clear u1 g4
                  go_wp2
                  go_roundg (i + 1 - (t + 1))
                  case measure => go_light; omega
                  case rel => go_light; exact ⟨rfl, t + 1, 0, by omega, by omega, rfl, by omega, rfl, by go_num, hL2.zero U1.out⟩
                · have u1' : (S (P i e0 t) == 0) = false := beq_eq_false_iff_ne.2 u1
                  have eK : bits .and .u32 (H (P i e0 t)) ((i : Int) - 1) = ((hm i H (P i e0 t) : Nat) : Int) := by rw [HM.out.2, hm_cast hN1]
                  have hk := hm_lt hN1 H (P i e0 t)
                  have eD : bits .and .i64 ((P i e0 t : Int) - (hm i H (P i e0 t) : Int)) ((i : Int) - 1) = ((dsp i e0 H t : Nat) : Int) := by rw [HM.out.1, dsp_cast hN1]
                  by_cases u2 : dsp i e0 H t < run + 1
                  · go_wp2
                    go_roundg (i + 1 - (t + 1))
                    case measure => go_light; omega
                    case rel => go_light; exact ⟨rfl, t + 1, run + 1, by omega, by omega, rfl, by omega, by go_num, by go_num, hL2.more hr u1 u2⟩
                  · go_wp2
                    go_ret
                    exact PremPost.no
              · go_wp2
                go_ret
                obtain rfl : t = i + 1 := by omega
                exact ⟨true, rfl, rfl, fun _ => ⟨e0, HP.out, he0, HE.out.1, HE.out.2.1, hn, ⟨q, hq, HE.out.2.2.1, T3.out, HE.out.2.2.2⟩, fun s h1 h2 h3 => hL2.2 s h1 (by omega) h3⟩⟩
          · have t3' : (H q != h) = true := by simp [t3]
            go_wp2
            go_ret
            exact PremPost.no
        · go_wp2
          go_ret
          exact PremPost.no
end Go.Proofs.Qxb6623391a
