/- zzParseCanonical. -/
import Derived.Test.Qxb6617515aDoorPre
namespace Go.Proofs.Qxb6617515aDoor
open Go.RowKit
set_option linter.unusedVariables false

/-- A text [-]W.FF: s is 1 behind a sign; nd digits of W; X j is what the first j of them say. -/
structure Txt (s nd : Nat) (f X : Nat → Int) (t o : Int) : Prop where
  s1 : s ≤ 1
  nd1 : 1 ≤ nd
  sign : s = 1 → f 0 = 45
  dig : ∀ j, j < nd → 48 ≤ f (s + j) ∧ f (s + j) ≤ 57
  lead : 1 < nd → f s ≠ 48
  x0 : X 0 = 0
  xs : ∀ j, j < nd → X (j + 1) = X j * 10 + (f (s + j) - 48)
  xb : ∀ j, j ≤ nd → 0 ≤ X j ∧ X j ≤ 92233720368547758
  dot : f (s + nd) = 46
  ft : f (s + nd + 1) = 48 + t
  fo : f (s + nd + 2) = 48 + o
  ht : 0 ≤ t ∧ t ≤ 9
  ho : 0 ≤ o ∧ o ≤ 9

def ParPost (w : World) (v : Int) (e : Ending) (w' : World) : Prop := e = .returned (.tuple #[.int .i64 v, .bool true]) ∧ ∃ q, w' = w.drewN q

set_option maxHeartbeats 2000000 in
set_option maxRecDepth 100000 in
theorem parse_pos (b off nd c : Nat) (f X : Nat → Int) (t o : Int) (w : World) (hnd : nd ≤ 20) (h : Txt 0 nd f X t o) (hm : X nd * 100 + (t * 10 + o) ≤ 9223372036854775807)
    (hf : ∀ i, i < nd + 3 → w.cell? ⟨b, off + i, none⟩ = some (.int .u8 (f i))) :
    Calls Tryd.prog 8 #[.slice (some ⟨b, off, none⟩) (nd + 3) c] w (ParPost w (X nd * 100 + (t * 10 + o))) := by
  have HT := hid h
  have HF := hid hf
  have g0 := hf 0 (by omega)
  rw [Nat.add_zero] at g0
  have hd0 := h.dig 0 (by have := h.nd1; omega)
  rw [Nat.add_zero] at hd0
  have t0 : (f 0 == 45) = false := beq_eq_false_iff_ne.2 (by omega)
  have nd1 := h.nd1
  clear h hf
  go_enter Tryd.func8, Tryd.ntmps8
  go_wp2_with fail
  clear g0 hd0 t0
  go_loopg [4, 7] nd (fun g s4 s7 wx => wx = w ∧ ∃ j : Nat, j ≤ nd ∧ g = nd - j ∧ s4 = .int .i64 j ∧ s7 = .int .u64 (X j))
  case atStart => exact ⟨rfl, 0, Nat.zero_le _, rfl, rfl, by rw [HT.out.x0]⟩
  case round =>
    obtain ⟨rfl, j, hj, rfl, rfl, rfl⟩ := hrel
    have g1 := HF.out j (by omega)
    obtain ⟨xj, hxj⟩ : ∃ x, x = X j := ⟨_, rfl⟩
    have hb := HT.out.xb j hj
    rw [← hxj] at hb ⊢
    by_cases hlt : j < nd
    · obtain ⟨d, hd⟩ : ∃ d : Int, f j = 48 + d := ⟨f j - 48, by omega⟩
      have hdr := HT.out.dig j hlt
      rw [Nat.zero_add, hd] at hdr
      have hd0 : 0 ≤ d := by omega
      have hd9 : d ≤ 9 := by omega
      have HX := hid (show X (j + 1) = xj * 10 + d by have := HT.out.xs j hlt; rw [Nat.zero_add, hd, ← hxj] at this; omega)
      have HC := hid (digit_any (48 + d) wr)
      have hov : ¬ ((18446744073709551615 - d) / 10 < xj) := by omega
      have hxl : xj * 10 + d < 18446744073709551616 := by omega
      have hx0 : 0 ≤ xj * 10 + d := by omega
      rw [hd] at g1
      clear hdr hd hb hxj
      go_wp2_with fail
      refine HC.out.mono ?_
      rintro e w2 ⟨rfl, hw2⟩
      have hw2' := hw2.symm
      subst hw2'
      clear hw2 HC
      have hq1 : (decide (48 ≤ 48 + d) && decide (48 + d ≤ 57)) = true := by simp; omega
      rw [hq1]
      go_wp2_with fail
      go_roundg (nd - (j + 1))
      case measure => go_light; omega
      case rel => go_light; exact ⟨rfl, j + 1, by omega, rfl, by go_num, by rw [HX.out]; congr 1; omega⟩
    · obtain rfl : nd = j := by omega
      have hz := HT.out.dot
      have hz1 := HT.out.ft
      have hz2 := HT.out.fo
      rw [Nat.zero_add] at hz hz1 hz2
      have ht := HT.out.ht
      have ho := HT.out.ho
      rw [hz] at g1
      have g2 := HF.out (nd + 1) (by omega)
      have g3 := HF.out (nd + 2) (by omega)
      rw [hz1] at g2
      rw [hz2] at g3
      have g4 := HF.out 0 (by omega)
      rw [Nat.add_zero] at g4
      have hlead : 1 < nd → f 0 ≠ 48 := HT.out.lead
      have HC := hid (digit_any 46 wr)
      have HCt := hid (digit_any (48 + t) wr)
      have HCo := hid (digit_any (48 + o) wr)
      rw [← hxj] at hm
      have hqt : (decide (48 ≤ 48 + t) && decide (48 + t ≤ 57)) = true := by simp; omega
      have hqo : (decide (48 ≤ 48 + o) && decide (48 + o ≤ 57)) = true := by simp; omega
      obtain ⟨ht0, ht9⟩ := ht
      obtain ⟨ho0, ho9⟩ := ho
      have hov : ¬ ((18446744073709551615 - (t * 10 + o)) / 100 < xj) := by omega
      have HL := hid (show 1 < nd → (f 0 == 48) = false from fun x => beq_eq_false_iff_ne.2 (hlead x))
      have HXJ := hid hxj
      clear hz hz1 hz2 hxj hlead
      go_wp2_with fail
      refine HC.out.mono ?_
      rintro e w2 ⟨rfl, hw2⟩
      have hw2' := hw2.symm
      subst hw2'
      clear hw2 HC
      by_cases hn1 : 1 < nd
      · have tl := HL.out hn1
        go_wp2_with fail
        refine HCt.out.mono ?_
        rintro e w2 ⟨rfl, hw2⟩
        have hw2' := hw2.symm
        subst hw2'
        clear hw2 HCt
        rw [hqt]
        go_wp2_with fail
        refine HCo.out.mono ?_
        rintro e w2 ⟨rfl, hw2⟩
        have hw2' := hw2.symm
        subst hw2'
        clear hw2 HCo
        rw [hqo]
        go_wp2_with fail
        go_quiet (fail)
        go_wp2_with fail
        have e1 : xj * 100 + ((48 + t - 48) * 10 + (48 + o - 48)) = X nd * 100 + (t * 10 + o) := by have := HXJ.out; omega
        simp only [e1]
        exact bodyPost_ret (v := .tuple #[.int .i64 (X nd * 100 + (t * 10 + o)), .bool true]) (by simp [results, Tryd.results8, go_sem]) rfl ⟨rfl, _, rfl⟩
      · go_wp2_with fail
        refine HCt.out.mono ?_
        rintro e w2 ⟨rfl, hw2⟩
        have hw2' := hw2.symm
        subst hw2'
        clear hw2 HCt
        rw [hqt]
        go_wp2_with fail
        refine HCo.out.mono ?_
        rintro e w2 ⟨rfl, hw2⟩
        have hw2' := hw2.symm
        subst hw2'
        clear hw2 HCo
        rw [hqo]
        go_wp2_with fail
        go_quiet (fail)
        go_wp2_with fail
        have e1 : xj * 100 + ((48 + t - 48) * 10 + (48 + o - 48)) = X nd * 100 + (t * 10 + o) := by have := HXJ.out; omega
        simp only [e1]
        exact bodyPost_ret (v := .tuple #[.int .i64 (X nd * 100 + (t * 10 + o)), .bool true]) (by simp [results, Tryd.results8, go_sem]) rfl ⟨rfl, _, rfl⟩
end Go.Proofs.Qxb6617515aDoor
