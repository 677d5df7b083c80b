/- The law's own walk. -/
import Derived.Test.Qxb6623391aZZ
namespace Go.Proofs.Qxb6623391a
open Go.RowKit
set_option linter.unusedVariables false

theorem prem_parts (a0 a1 : Option Addr) (n0 c0 n1 c1 : Nat) (h n : Int) (w : World) (h0 : n0 ≤ 4096) (h1 : n1 ≤ 4096)
    (hbad : n0 ≠ n1 ∨ n1 = 0 ∨ (n0 = n1 ∧ n1 ≠ 0 ∧ bits .and .i64 (n1 : Int) ((n1 : Int) - 1) ≠ 0) ∨ (n0 = n1 ∧ n1 ≠ 0 ∧ bits .and .i64 (n1 : Int) ((n1 : Int) - 1) = 0 ∧ n = 0)) :
    Calls Try.prog 5 #[.slice a0 n0 c0, .slice a1 n1 c1, .int .u32 h, .int .u32 n] w fun e w' => e = .returned (.bool false) ∧ w' = w := by
  by_cases e1 : n0 = n1
  · have e1' : ((n0 : Int) != (n1 : Int)) = false := by simp [e1]
    by_cases e2 : n1 = 0
    · subst e2
      obtain rfl : n0 = 0 := e1
      go_enter Try.func5, Try.ntmps5
      go_wp2
      go_ret
      exact ⟨rfl, rfl⟩
    · subst e1
      have e2' : ((n0 : Int) == 0) = false := beq_eq_false_iff_ne.2 (by omega)
      by_cases e3 : bits .and .i64 (n0 : Int) ((n0 : Int) - 1) = 0
      · have e3' : (bits .and .i64 (n0 : Int) ((n0 : Int) - 1) != 0) = false := by rw [e3]; rfl
        have e4 : n = 0 := by
          rcases hbad with x | x | x | x
          · exact absurd rfl x
          · exact absurd x e2
          · exact absurd e3 x.2.2
          · exact x.2.2.2
        subst e4
        clear hbad
        go_enter Try.func5, Try.ntmps5
        go_wp2
        go_ret
        exact ⟨rfl, rfl⟩
      · have e3' : (bits .and .i64 (n0 : Int) ((n0 : Int) - 1) != 0) = true := bne_iff_ne.2 e3
        clear hbad
        go_enter Try.func5, Try.ntmps5
        go_wp2
        go_ret
        exact ⟨rfl, rfl⟩
  · have e1' : ((n0 : Int) != (n1 : Int)) = true := bne_iff_ne.2 (by omega)
    clear hbad
    go_enter Try.func5, Try.ntmps5
    go_wp2
    go_ret
    exact ⟨rfl, rfl⟩

/-- WHAT THE WALK IS TOLD OF A SLICE OF INTEGERS THAT CAME IN. -/
def IsRow (k : IntKind) (w : World) (a : Option Addr) (len cap : Nat) (zs : List Int) : Prop :=
  (a = none ∧ len = 0 ∧ cap = 0 ∧ zs = []) ∨
  ∃ x, a = some x ∧ len ≤ cap ∧ cap ≤ maxLen ∧ zs.length = cap ∧ (∀ i, i < zs.length → w.cell? (x.add i) = some (.int k (zs.getD i 0))) ∧ ∀ n ∈ zs, (Lit.int k n).wf = true

theorem IsRow.len {k : IntKind} {w : World} {a : Option Addr} {len cap : Nat} {zs : List Int} (h : IsRow k w a len cap zs) : len ≤ maxLen := by
  rcases h with ⟨_, h, _, _⟩ | ⟨x, _, h1, h2, _⟩
  · rw [h]; exact Nat.zero_le _
  · omega
theorem IsRow.some {k : IntKind} {w : World} {a : Option Addr} {len cap : Nat} {zs : List Int} (h : IsRow k w a len cap zs) (h1 : 1 ≤ len) :
    ∃ b off, a = some ⟨b, off, none⟩ ∧ b < w.heap.size ∧ ∀ i, i < len → w.cell? ⟨b, off + i, none⟩ = some (.int k (zs.getD i 0)) := by
  rcases h with ⟨_, h, _, _⟩ | ⟨x, rfl, hl, hm, hz, hc, _⟩
  · omega
  · obtain ⟨b, off, spot⟩ := x
    have hspot : spot = none := by simpa [Addr.add] using World.cell?_spot (hc 0 (by omega))
    subst hspot
    refine ⟨b, off, rfl, World.block_lt_of_cell? _ _ (hc 0 (by omega)), fun i hi => ?_⟩
    rw [← Go.WideShapes.add_plain]
    exact hc i (by omega)

theorem Tab.same {N e : Nat} {H S : Nat → Int} {r t : Nat} {mh mn sh sn : Nat → Int} (he : e < N) (h : Tab N e H S r t mh mn) (k : Tab N e H S r t sh sn) : ∀ i, i < N → sh i = mh i ∧ sn i = mn i := by
  intro i hi
  obtain ⟨s, h1, h2, rfl⟩ := P_surj e i hi he
  exact ⟨by rw [(h s h1 h2).1, (k s h1 h2).1], by rw [(h s h1 h2).2, (k s h1 h2).2]⟩

theorem below_drewN {B : Nat} {a w : World} (h : Below B a w) (q : Nat) : Below B a (w.drewN q) := ⟨h.os, h.tape, h.output, h.size, h.block⟩

set_option maxHeartbeats 2000000 in
set_option maxRecDepth 100000 in
theorem law_main (b0 o0 c0 b1 o1 c1 N : Nat) (H S : Nat → Int) (used warmed h n : Int) (w : World) (hN : N ≤ 4096) (hN1 : 1 ≤ N) (hn : n ≠ 0) (hand : bits .and .i64 (N : Int) ((N : Int) - 1) = 0)
    (hb0 : b0 < w.heap.size) (hb1 : b1 < w.heap.size)
    (hH : ∀ i, i < N → w.cell? ⟨b0, o0 + i, none⟩ = some (.int .u32 (H i))) (hS : ∀ i, i < N → w.cell? ⟨b1, o1 + i, none⟩ = some (.int .u32 (S i))) :
    Calls Try.prog 3 #[.slice (some ⟨b0, o0, none⟩) N c0, .slice (some ⟨b1, o1, none⟩) N c1, .int .i64 used, .int .u32 warmed, .int .u32 h, .int .u32 n] w fun e w' => e = .returned (.bool true) ∧ Below w.heap.size w w' := by
  obtain ⟨m, hm31, hpow⟩ := pow_of_and N hN1 (by omega) hand
  have HPR : Hid (∀ w', w' = w → Calls Try.prog 5 #[.slice (some ⟨b0, o0, none⟩) N c0, .slice (some ⟨b1, o1, none⟩) N c1, .int .u32 h, .int .u32 n] w' (PremPost N H S h n w')) := by
    rintro w' rfl
    exact prem_main b0 o0 c0 b1 o1 c1 N m H S h n _ hm31 hpow hN1 hN hn hH hS hand
  clear hpow hand
  go_enter Try.func3, Try.ntmps3
  go_wp2_with fail
  refine (bytes_any _ _ _ _ _ _ _ _ _ _ _ (by unfold maxLen; omega) (by unfold maxLen; omega)).mono ?_
  rintro e w' ⟨bo, rfl, rfl⟩
  cases bo
  · go_wp2
    go_ret
    exact ⟨rfl, Below.refl _ _⟩
  · go_wp2_with fail
    refine (HPR.out _ rfl).mono ?_
    rintro e w2 ⟨bo, rfl, hw2, hbo⟩
    subst hw2
    cases bo
    · go_wp2
      go_ret
      exact ⟨rfl, Below.refl _ _⟩
    · obtain ⟨e0, hg⟩ := hbo rfl
      obtain ⟨r, L, hr1, hr2, hru⟩ := hg.lin
      have HG : Hid (Good N e0 H S h n ∧ Pl.Lin N r (kkOf N e0 H) (ocOf N e0 S) ∧ S (P N e0 r) = n ∧ H (P N e0 r) = h ∧ ∀ t, 1 ≤ t → t ≤ N → S (P N e0 t) = n → t = r) := ⟨hg, L, hr1, hr2, hru⟩
      clear hg L hr1 hr2 hru hbo HPR
      go_wp2_with fail
      refine (clone_some b0 o0 N c0 H w2 hN hb0 hH).mono ?_
      rintro e w3 ⟨rfl, ra3, bl3, sz3⟩
      have hS3 : ∀ i, i < N → w3.cell? ⟨b1, o1 + i, none⟩ = some (.int .u32 (S i)) := fun i hi => by rw [bl3.cell (p := ⟨b1, o1 + i, none⟩) hb1]; exact hS i hi
      clear hH hS
      go_wp2_with fail
      refine (clone_some b1 o1 N c1 S w3 hN (by omega) hS3).mono ?_
      rintro e w4 ⟨rfl, rb4, bl4, sz4⟩
      have ra4 := ra3.below bl4 (by omega)
      have bl24 := bl3.trans (bl4.mono (by omega))
      rw [sz3] at sz4 rb4
      rw [sz3]
      clear ra3 hS3 bl3 bl4 sz3
      go_wp2_with fail
      refine (rebuild_any w2.heap.size 0 N (w2.heap.size + 1) 0 N N e0 r H S h n w4 hN HG.out.1 HG.out.2.1 HG.out.2.2.1 HG.out.2.2.2.2 (by omega) (by omega) (fun i hi => by rw [Nat.zero_add]; exact ra4.cell hi) (fun i hi => by rw [Nat.zero_add]; exact rb4.cell hi)).mono ?_
      rintro e w5 ⟨rfl, hReb⟩
      obtain ⟨⟨mh, mn, rm5, rn5, ht5⟩, bl5, sz5⟩ := hReb
      have ra5 := ra4.below bl5 (by omega)
      have rb5 := rb4.below bl5 (by omega)
      have bl25 := bl24.trans (bl5.mono (by omega))
      rw [sz4] at sz5 rm5 rn5
      rw [sz4]
      clear ra4 rb4 bl24 bl5 sz4
      go_wp2_with fail
      refine (clone_some w2.heap.size 0 N N H w5 hN (by omega) (fun i hi => by rw [Nat.zero_add]; exact ra5.cell hi)).mono ?_
      rintro e w6 ⟨rfl, rp6, bl6, sz6⟩
      have rb6 := rb5.below bl6 (by omega)
      have rm6 := rm5.below bl6 (by omega)
      have rn6 := rn5.below bl6 (by omega)
      have bl26 := bl25.trans (bl6.mono (by omega))
      rw [sz5] at sz6 rp6
      rw [sz5]
      clear ra5 rb5 rm5 rn5 bl25 bl6 sz5
      go_wp2_with fail
      refine (clone_some (w2.heap.size + 1) 0 N N S w6 hN (by omega) (fun i hi => by rw [Nat.zero_add]; exact rb6.cell hi)).mono ?_
      rintro e w7 ⟨rfl, rq7, bl7, sz7⟩
      have rp7 := rp6.below bl7 (by omega)
      have rm7 := rm6.below bl7 (by omega)
      have rn7 := rn6.below bl7 (by omega)
      have bl27 := bl26.trans (bl7.mono (by omega))
      rw [sz6] at sz7 rq7
      rw [sz6]
      clear rb6 rp6 rm6 rn6 bl26 bl7 sz6
      go_wp2_with fail
      refine (zz_any _ N _ N N e0 r H S used warmed h n w7 hN HG.out.1 HG.out.2.1 HG.out.2.2.1 HG.out.2.2.2.1 HG.out.2.2.2.2 (by omega) (by omega) (fun i hi => rp7.cell hi) (fun i hi => rq7.cell hi)).mono ?_
      rintro e w8 ⟨rfl, bl8, sh, sn, rs8, rt8, ht8⟩
      have rm8 := rm7.below bl8 (by omega)
      have rn8 := rn7.below bl8 (by omega)
      have bl28 := bl27.trans (bl8.mono (by omega))
      have hsm := Tab.same HG.out.1.he ht5 ht8
      have rs9 := rs8.congr (fun i hi => (hsm i hi).1)
      have rt9 := rt8.congr (fun i hi => (hsm i hi).2)
      rw [sz7] at rs9 rt9
      rw [sz7]
      clear rp7 rq7 rm7 rn7 bl27 bl8 sz7 rs8 rt8 ht8 ht5 hsm
      go_wp2
      go_loopg [21] N (fun g s21 wx => ∃ k : Nat, k ≤ N ∧ g = N - k ∧ s21 = .int .i64 k ∧ Row wx (w2.heap.size + 1 + 1) N mh ∧ Row wx (w2.heap.size + 1 + 1 + 1) N mn ∧ Row wx (w2.heap.size + 1 + 1 + 2 + 1 + 1 + 2) N mh ∧ Row wx (w2.heap.size + 1 + 1 + 2 + 1 + 1 + 3) N mn ∧ Below w2.heap.size w2 wx)
      case atStart => exact ⟨0, Nat.zero_le _, rfl, rfl, rm8, rn8, rs9, rt9, bl28⟩
      case round =>
        obtain ⟨k, hk, rfl, rfl, q1, q2, q3, q4, qb⟩ := hrel
        clear rm8 rn8 rs9 rt9 bl28
        by_cases hlt : k < N
        · have g1 := q1.cell hlt
          have g2 := q2.cell hlt
          have g3 := q3.cell hlt
          have g4 := q4.cell hlt
          have hltz : (k : Int) < (N : Int) := by omega
          have hd1 : (mh k != mh k) = false := by simp
          have hd2 : (mn k != mn k) = false := by simp
          go_wp2_with fail
          go_quiet (fail)
          go_wp2
          go_roundg (N - (k + 1))
          case measure => go_light; omega
          case rel => go_light; exact ⟨k + 1, by omega, rfl, by go_num, q1.drewN _, q2.drewN _, q3.drewN _, q4.drewN _, below_drewN qb _⟩
        · go_wp2
          go_ret
          exact ⟨rfl, qb⟩

theorem law_big (a0 a1 : Option Addr) (n0 c0 n1 c1 : Nat) (used warmed h n : Int) (w : World) (h0 : n0 ≤ maxLen) (h1 : n1 ≤ maxLen) (hbig : 4096 < n0 ∨ 4096 < n1) :
    Calls Try.prog 3 #[.slice a0 n0 c0, .slice a1 n1 c1, .int .i64 used, .int .u32 warmed, .int .u32 h, .int .u32 n] w fun e w' => e = .returned (.bool true) ∧ Below w.heap.size w w' := by
  by_cases e0 : 4096 < n0
  · clear hbig
    go_enter Try.func3, Try.ntmps3
    go_wp2_with fail
    refine (bytes_any _ _ _ _ _ _ _ _ _ _ _ h0 h1).mono ?_
    rintro e w' ⟨bo, rfl, rfl⟩
    cases bo
    all_goals
      go_wp2
      go_ret
      exact ⟨rfl, Below.refl _ _⟩
  · have e1 : 4096 < n1 := by omega
    clear hbig
    go_enter Try.func3, Try.ntmps3
    go_wp2_with fail
    refine (bytes_any _ _ _ _ _ _ _ _ _ _ _ h0 h1).mono ?_
    rintro e w' ⟨bo, rfl, rfl⟩
    cases bo
    all_goals
      go_wp2
      go_ret
      exact ⟨rfl, Below.refl _ _⟩

theorem law_bad (a0 a1 : Option Addr) (n0 c0 n1 c1 : Nat) (used warmed h n : Int) (w : World) (h0 : n0 ≤ 4096) (h1 : n1 ≤ 4096)
    (hbad : n0 ≠ n1 ∨ n1 = 0 ∨ (n0 = n1 ∧ n1 ≠ 0 ∧ bits .and .i64 (n1 : Int) ((n1 : Int) - 1) ≠ 0) ∨ (n0 = n1 ∧ n1 ≠ 0 ∧ bits .and .i64 (n1 : Int) ((n1 : Int) - 1) = 0 ∧ n = 0)) :
    Calls Try.prog 3 #[.slice a0 n0 c0, .slice a1 n1 c1, .int .i64 used, .int .u32 warmed, .int .u32 h, .int .u32 n] w fun e w' => e = .returned (.bool true) ∧ Below w.heap.size w w' := by
  have HB : Hid (∀ w, Calls Try.prog 5 #[.slice a0 n0 c0, .slice a1 n1 c1, .int .u32 h, .int .u32 n] w fun e w' => e = .returned (.bool false) ∧ w' = w) := fun w => prem_parts a0 a1 n0 c0 n1 c1 h n w h0 h1 hbad
  clear hbad
  go_enter Try.func3, Try.ntmps3
  go_wp2_with fail
  refine (bytes_any _ _ _ _ _ _ _ _ _ _ _ (by unfold maxLen; omega) (by unfold maxLen; omega)).mono ?_
  rintro e w' ⟨bo, rfl, rfl⟩
  cases bo
  · go_wp2
    go_ret
    exact ⟨rfl, Below.refl _ _⟩
  · go_wp2_with fail
    refine (HB.out _).mono ?_
    rintro e w2 ⟨rfl, rfl⟩
    go_wp2
    go_ret
    exact ⟨rfl, Below.refl _ _⟩

theorem law_walk (a0 : Option Addr) (len0 cap0 : Nat) (z0 : List Int) (a1 : Option Addr) (len1 cap1 : Nat) (z1 : List Int) (a2 a3 a4 a5 : Int) (w : World) (w0 : IsRow .u32 w a0 len0 cap0 z0) (w1 : IsRow .u32 w a1 len1 cap1 z1) :
    Calls Try.prog 3 #[.slice a0 len0 cap0, .slice a1 len1 cap1, .int .i64 a2, .int .u32 a3, .int .u32 a4, .int .u32 a5] w fun e w' => e = .returned (.bool true) ∧ Below w.heap.size w w' := by
  by_cases hbig : 4096 < len0 ∨ 4096 < len1
  · exact law_big a0 a1 len0 cap0 len1 cap1 a2 a3 a4 a5 w w0.len w1.len hbig
  · by_cases e1 : len0 = len1
    · by_cases e2 : len1 = 0
      · exact law_bad a0 a1 len0 cap0 len1 cap1 a2 a3 a4 a5 w (by omega) (by omega) (.inr (.inl e2))
      · by_cases e3 : bits .and .i64 (len1 : Int) ((len1 : Int) - 1) = 0
        · by_cases e4 : a5 = 0
          · exact law_bad a0 a1 len0 cap0 len1 cap1 a2 a3 a4 a5 w (by omega) (by omega) (.inr (.inr (.inr ⟨e1, e2, e3, e4⟩)))
          · subst e1
            obtain ⟨b0, o0, rfl, hb0, hc0⟩ := w0.some (by omega)
            obtain ⟨b1, o1, rfl, hb1, hc1⟩ := w1.some (by omega)
            exact law_main b0 o0 cap0 b1 o1 cap1 len0 (fun i => z0.getD i 0) (fun i => z1.getD i 0) a2 a3 a4 a5 w (by omega) (by omega) e4 e3 hb0 hb1 hc0 hc1
        · exact law_bad a0 a1 len0 cap0 len1 cap1 a2 a3 a4 a5 w (by omega) (by omega) (.inr (.inr (.inl ⟨e1, e2, e3⟩)))
    · exact law_bad a0 a1 len0 cap0 len1 cap1 a2 a3 a4 a5 w (by omega) (by omega) (.inl e1)
end Go.Proofs.Qxb6623391a
