/- zzParseCanonical. -/
import Derived.Test.Qxb6617515aDoorParse
namespace Go.Proofs.Qxb6617515aDoor
open Go.RowKit
set_option linter.unusedVariables false

set_option maxHeartbeats 2000000 in
set_option maxRecDepth 100000 in
theorem parse_neg (b off nd c : Nat) (f X : Nat → Int) (t o : Int) (w : World) (hnd : nd ≤ 20) (h : Txt 1 nd f X t o) (hm1 : 1 ≤ X nd * 100 + (t * 10 + o)) (hm : X nd * 100 + (t * 10 + o) ≤ 9223372036854775808)
    (hf : ∀ i, i < nd + 4 → w.cell? ⟨b, off + i, none⟩ = some (.int .u8 (f i))) :
    Calls Tryd.prog 8 #[.slice (some ⟨b, off, none⟩) (nd + 4) c] w (ParPost w (-(X nd * 100 + (t * 10 + o)))) := by
  have HT := hid h
  have HF := hid hf
  have g0 := hf 0 (by omega)
  rw [Nat.add_zero] at g0
  rw [h.sign rfl] at g0
  have nd1 := h.nd1
  clear h hf
  go_enter Tryd.func8, Tryd.ntmps8
  go_wp2_with fail
  clear g0
  go_loopg [4, 7] nd (fun g s4 s7 wx => wx = w ∧ ∃ j : Nat, j ≤ nd ∧ g = nd - j ∧ s4 = .int .i64 ((j : Int) + 1) ∧ s7 = .int .u64 (X j))
  case atStart => exact ⟨rfl, 0, Nat.zero_le _, rfl, rfl, by rw [HT.out.x0]⟩
  case round =>
    obtain ⟨rfl, j, hj, rfl, rfl, rfl⟩ := hrel
    have g1 := HF.out (j + 1) (by omega)
    obtain ⟨xj, hxj⟩ : ∃ x, x = X j := ⟨_, rfl⟩
    have hb := HT.out.xb j hj
    rw [← hxj] at hb ⊢
    by_cases hlt : j < nd
    · obtain ⟨d, hd⟩ : ∃ d : Int, f (j + 1) = 48 + d := ⟨f (j + 1) - 48, by omega⟩
      have hdr := HT.out.dig j hlt
      rw [Nat.add_comm 1 j, hd] at hdr
      have hd0 : 0 ≤ d := by omega
      have hd9 : d ≤ 9 := by omega
      have HX := hid (show X (j + 1) = xj * 10 + d by have := HT.out.xs j hlt; rw [Nat.add_comm 1 j, hd, ← hxj] at this; omega)
      have HC := hid (digit_any (48 + d) wr)
      have hov : ¬ ((18446744073709551615 - d) / 10 < xj) := by omega
      have hxl : xj * 10 + d < 18446744073709551616 := by omega
      have hx0 : 0 ≤ xj * 10 + d := by omega
      rw [hd] at g1
      clear hdr hd hb hxj
      go_wp2_with fail
      refine HC.out.mono ?_
      rintro e w2 ⟨rfl, hw2⟩
      have hw2' := hw2.symm
      subst hw2'
      clear hw2 HC
      have hq1 : (decide (48 ≤ 48 + d) && decide (48 + d ≤ 57)) = true := by simp; omega
      rw [hq1]
      go_wp2_with fail
      go_roundg (nd - (j + 1))
      case measure => go_light; omega
      case rel => go_light; exact ⟨rfl, j + 1, by omega, rfl, by go_num, by rw [HX.out]; congr 1; omega⟩
    · obtain rfl : nd = j := by omega
      have hz := HT.out.dot
      have hz1 := HT.out.ft
      have hz2 := HT.out.fo
      rw [Nat.add_comm 1 nd] at hz hz1 hz2
      have ht := HT.out.ht
      have ho := HT.out.ho
      rw [hz] at g1
      have g2 := HF.out (nd + 1 + 1) (by omega)
      have g3 := HF.out (nd + 1 + 2) (by omega)
      rw [hz1] at g2
      rw [hz2] at g3
      have g4 := HF.out 1 (by omega)
      have hlead : 1 < nd → f 1 ≠ 48 := HT.out.lead
      have HC := hid (digit_any 46 wr)
      have HCt := hid (digit_any (48 + t) wr)
      have HCo := hid (digit_any (48 + o) wr)
      rw [← hxj] at hm hm1
      have hqt : (decide (48 ≤ 48 + t) && decide (48 + t ≤ 57)) = true := by simp; omega
      have hqo : (decide (48 ≤ 48 + o) && decide (48 + o ≤ 57)) = true := by simp; omega
      obtain ⟨ht0, ht9⟩ := ht
      obtain ⟨ho0, ho9⟩ := ho
      have hov : ¬ ((18446744073709551615 - (t * 10 + o)) / 100 < xj) := by omega
      have HL := hid (show 1 < nd → (f 1 == 48) = false from fun x => beq_eq_false_iff_ne.2 (hlead x))
      have hmz : (xj * 100 + ((48 + t - 48) * 10 + (48 + o - 48)) == 0) = false := beq_eq_false_iff_ne.2 (by omega)
      have hmy : ¬ (9223372036854775808 < xj * 100 + ((48 + t - 48) * 10 + (48 + o - 48))) := by omega
      have HXJ := hid hxj
      clear hz hz1 hz2 hxj hlead
      go_wp2_with fail
      refine HC.out.mono ?_
      rintro e w2 ⟨rfl, hw2⟩
      have hw2' := hw2.symm
      subst hw2'
      clear hw2 HC
      by_cases hn1 : 1 < nd
      · have tl := HL.out hn1
        go_wp2_with fail
        refine HCt.out.mono ?_
        rintro e w2 ⟨rfl, hw2⟩
        have hw2' := hw2.symm
        subst hw2'
        clear hw2 HCt
        rw [hqt]
        go_wp2_with fail
        refine HCo.out.mono ?_
        rintro e w2 ⟨rfl, hw2⟩
        have hw2' := hw2.symm
        subst hw2'
        clear hw2 HCo
        rw [hqo]
        go_wp2_with fail
        go_quiet (fail)
        go_wp2_with fail
        have e1 : wrap64 (IntKind.u64.wrap (-(xj * 100 + ((48 + t - 48) * 10 + (48 + o - 48))))) = -(X nd * 100 + (t * 10 + o)) := by
          have := HXJ.out
          rw [IntKind.wrap_u64]
          unfold wrap64
          omega
        simp only [e1]
        exact bodyPost_ret (v := .tuple #[.int .i64 (-(X nd * 100 + (t * 10 + o))), .bool true]) (by simp [results, Tryd.results8, go_sem]) rfl ⟨rfl, _, rfl⟩
      · go_wp2_with fail
        refine HCt.out.mono ?_
        rintro e w2 ⟨rfl, hw2⟩
        have hw2' := hw2.symm
        subst hw2'
        clear hw2 HCt
        rw [hqt]
        go_wp2_with fail
        refine HCo.out.mono ?_
        rintro e w2 ⟨rfl, hw2⟩
        have hw2' := hw2.symm
        subst hw2'
        clear hw2 HCo
        rw [hqo]
        go_wp2_with fail
        go_quiet (fail)
        go_wp2_with fail
        have e1 : wrap64 (IntKind.u64.wrap (-(xj * 100 + ((48 + t - 48) * 10 + (48 + o - 48))))) = -(X nd * 100 + (t * 10 + o)) := by
          have := HXJ.out
          rw [IntKind.wrap_u64]
          unfold wrap64
          omega
        simp only [e1]
        exact bodyPost_ret (v := .tuple #[.int .i64 (-(X nd * 100 + (t * 10 + o))), .bool true]) (by simp [results, Tryd.results8, go_sem]) rfl ⟨rfl, _, rfl⟩
end Go.Proofs.Qxb6617515aDoor
