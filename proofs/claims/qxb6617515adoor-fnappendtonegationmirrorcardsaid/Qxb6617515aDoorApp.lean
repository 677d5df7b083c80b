/- Amount.AppendTo. -/
import Derived.Test.Qxb6617515aDoorUint
import Derived.Test.Qxb6617515aDoorPre
import Derived.Laws.AppendOwn
import Derived.Lib.AppendIntMem
import Derived.Lib.ItoaLen
namespace Go.Proofs.Qxb6617515aDoor
open Go.RowKit Go.Proofs Go.Lib
set_option linter.unusedVariables false

/-- The text of an amount. -/
def amt (a : Int) : List UInt8 := (if a < 0 then [45] else []) ++ (Lib.decDigits (a.natAbs / 100) ++ [46, UInt8.ofNat (48 + a.natAbs % 100 / 10), UInt8.ofNat (48 + a.natAbs % 100 % 10)])

theorem info_parts5 : ∃ i, Tryd.prog.info? 5 = some i ∧ i.zero = some (.int .u8 0) ∧ i.size = 1 ∧ i.bytes = 1 := by
  obtain ⟨i, hi, hz⟩ := Option.map_eq_some_iff.1 Tryd.info5
  simp only [Prod.mk.injEq] at hz
  exact ⟨i, hi, hz.1, hz.2.1, hz.2.2⟩

def UPost (B n : Nat) (xs : List Value) (l : List UInt8) (w : World) (e : Ending) (w' : World) : Prop := ∃ v', e = .returned v' ∧ w'.ownsRow B 5 1 v' (n + l.length) (xs ++ Lib.byteCells l) ∧ Below B w w'

set_option maxHeartbeats 1000000 in
theorem uint_any (B n u : Nat) (hu64 : u < 18446744073709551616) (sv : Value) (xs : List Value) (w : World) (hown : w.ownsRow B 5 1 sv n xs) (hBw : B ≤ w.heap.size) (hlim : n + 20 ≤ 140737488355328)
    (htab : Lib.TabIs Tryd.prog w powN .u64 Lib.pow10Tab) :
    Calls Tryd.prog 11 #[sv, .int .u64 u, .int .i64 10] w (UPost B n xs (Lib.decDigits u) w) := by
  have HC := hid (inner_any B n u hu64 sv xs w hown hBw hlim htab)
  clear hown htab
  go_enter Tryd.func11, Tryd.ntmps11
  go_wp2_with fail
  refine HC.out.mono ?_
  rintro e w2 ⟨v2, rfl, h2, b2, _⟩
  have H2 := hid h2
  have B2 := hid b2
  clear h2 b2 HC
  go_wp2_with fail
  go_ret
  exact ⟨v2, rfl, H2.out, B2.out⟩

theorem byteCells3 (t o : Nat) (ht : t < 10) (ho : o < 10) : Lib.byteCells [46, UInt8.ofNat (48 + t), UInt8.ofNat (48 + o)] = [Value.int .u8 46, .int .u8 (48 + (t : Int)), .int .u8 (48 + (o : Int))] := by
  have h1 : (UInt8.ofNat (48 + t)).toNat = 48 + t := by simp [UInt8.toNat_ofNat']; omega
  have h2 : (UInt8.ofNat (48 + o)).toNat = 48 + o := by simp [UInt8.toNat_ofNat']; omega
  simp only [Lib.byteCells, List.map_cons, List.map_nil, h1, h2]
  rfl

theorem nDig (u : Nat) (h : u < 18446744073709551616) : (Lib.decDigits u).length ≤ 20 := by
  rw [Lib.decDigits_length u]
  exact Lib.nDigits_le20 u h

set_option maxHeartbeats 2000000 in
set_option maxRecDepth 100000 in
theorem append_nonneg (B n u : Nat) (hu : u < 9223372036854775808) (sv : Value) (xs : List Value) (w : World) (hown : w.ownsRow B 5 1 sv n xs) (hBw : B ≤ w.heap.size) (hlim : n ≤ 1048576)
    (htab : Lib.TabIs Tryd.prog w powN .u64 Lib.pow10Tab) :
    Calls Tryd.prog 6 #[.int .i64 (u : Int), sv] w (UPost B n xs (amt u) w) := by
  obtain ⟨i0, hi, hz0, hz1, hz2⟩ := info_parts5
  obtain ⟨q, hq⟩ : ∃ q : Nat, (u : Int) / 100 = (q : Int) := ⟨u / 100, by omega⟩
  obtain ⟨r, hr⟩ : ∃ r : Nat, (u : Int) % 100 = (r : Int) := ⟨u % 100, by omega⟩
  obtain ⟨t, ht⟩ : ∃ t : Nat, (r : Int) / 10 = (t : Int) := ⟨r / 10, by omega⟩
  obtain ⟨o, ho⟩ : ∃ o : Nat, (r : Int) % 10 = (o : Int) := ⟨r % 10, by omega⟩
  have hq1 : q < 18446744073709551616 := by omega
  have ht1 : t < 10 := by omega
  have ho1 : o < 10 := by omega
  have hwr : IntKind.u64.wrap (u : Int) = (u : Int) := by rw [IntKind.wrap_u64]; omega
  have HC := hid (uint_any B n q hq1 sv xs w hown hBw (by omega) htab)
  have HA := hid (show amt u = Lib.decDigits q ++ [46, UInt8.ofNat (48 + t), UInt8.ofNat (48 + o)] by
    unfold amt
    rw [if_neg (by omega), List.nil_append]
    have e1 : (u : Int).natAbs = u := by simp
    rw [e1, show u / 100 = q by omega, show u % 100 / 10 = t by omega, show u % 100 % 10 = o by omega])
  clear hown htab
  go_enter Tryd.func6, Tryd.ntmps6
  go_wp2_with fail
  refine HC.out.mono ?_
  rintro e w2 ⟨v2, rfl, h2, b2⟩
  clear HC
  have hsz2 := b2.size
  have H2 := hid h2
  have B2 := hid b2
  clear h2 b2
  have hdl := nDig q hq1
  go_wp2_with (at_builtin; refine wpList_append_own _ rfl _ _ 22 rfl B 5 i0 (.int .u8 0) 1 1 Tryd.underlying22 hi hz0 hz1 hz2 rfl (by decide) v2 (n + (Lib.decDigits q).length) (xs ++ Lib.byteCells (Lib.decDigits q)) rfl (H2.out.alloc _) ⟨w2.heap.size, 0, none⟩ 3 3 [Value.int .u8 46, .int .u8 (48 + (t : Int)), .int .u8 (48 + (o : Int))] rfl rfl (by intro j u' hj; match j, hj with | 0, hj => simp at hj; subst hj; simp [Addr.add] | 1, hj => simp at hj; subst hj; simp [Addr.add] | 2, hj => simp at hj; subst hj; simp [Addr.add]) (by intro u' hu'; simp at hu'; rcases hu' with rfl | rfl | rfl <;> rfl) (by unfold maxLen; omega) (by omega) (by simp; omega) ?_)
  intro v3 w3 hown3 hgrow _
  have B3 := hid (B2.out.trans (((Below.refl B w2).alloc (by omega) _).grown hgrow (by simp; omega) (fun k hk => (H2.out.lt k hk).1)))
  have H3 := hid hown3
  clear hown3 hgrow
  go_wp2_with fail
  go_ret
  refine ⟨v3, rfl, ?_, B3.out⟩
  rw [HA.out, List.length_append, ← Nat.add_assoc, Lib.byteCells_append, byteCells3 t o ht1 ho1]
  exact H3.out
set_option maxHeartbeats 2000000 in
set_option maxRecDepth 100000 in
theorem append_neg (B n u : Nat) (hu0 : 1 ≤ u) (hu : u ≤ 9223372036854775808) (sv : Value) (xs : List Value) (w : World) (hown : w.ownsRow B 5 1 sv n xs) (hBw : B ≤ w.heap.size) (hlim : n ≤ 1048576)
    (htab : Lib.TabBelow Tryd.prog B w powN .u64 Lib.pow10Tab) :
    Calls Tryd.prog 6 #[.int .i64 (-(u : Int)), sv] w (UPost B n xs (amt (-(u : Int))) w) := by
  obtain ⟨i0, hi, hz0, hz1, hz2⟩ := info_parts5
  obtain ⟨q, hq⟩ : ∃ q : Nat, (u : Int) / 100 = (q : Int) := ⟨u / 100, by omega⟩
  obtain ⟨r, hr⟩ : ∃ r : Nat, (u : Int) % 100 = (r : Int) := ⟨u % 100, by omega⟩
  obtain ⟨t, ht⟩ : ∃ t : Nat, (r : Int) / 10 = (t : Int) := ⟨r / 10, by omega⟩
  obtain ⟨o, ho⟩ : ∃ o : Nat, (r : Int) % 10 = (o : Int) := ⟨r % 10, by omega⟩
  have hq1 : q < 18446744073709551616 := by omega
  have ht1 : t < 10 := by omega
  have ho1 : o < 10 := by omega
  have hwr : IntKind.u64.wrap (-IntKind.u64.wrap (-(u : Int))) = (u : Int) := by rw [IntKind.wrap_u64, IntKind.wrap_u64]; omega
  have HOWN := hid hown
  have HTAB := hid htab
  have HA := hid (show amt (-(u : Int)) = [45] ++ (Lib.decDigits q ++ [46, UInt8.ofNat (48 + t), UInt8.ofNat (48 + o)]) by
    unfold amt
    rw [if_pos (by omega)]
    have e1 : (-(u : Int)).natAbs = u := by simp
    rw [e1, show u / 100 = q by omega, show u % 100 / 10 = t by omega, show u % 100 % 10 = o by omega])
  clear hown htab
  go_enter Tryd.func6, Tryd.ntmps6
  go_wp2_with (at_builtin; refine wpList_append_own _ rfl _ _ 22 rfl B 5 i0 (.int .u8 0) 1 1 Tryd.underlying22 hi hz0 hz1 hz2 rfl (by decide) sv n xs rfl (HOWN.out.alloc _) ⟨w.heap.size, 0, none⟩ 1 1 [Value.int .u8 45] rfl rfl (by intro j u' hj; match j, hj with | 0, hj => simp at hj; subst hj; simp [Addr.add]) (by intro u' hu'; simp at hu'; subst hu'; rfl) (by unfold maxLen; omega) (by omega) (by simp; omega) ?_)
  intro v1 w1 hown1 hgrow1 _
  have B1 := hid (((Below.refl B w).alloc hBw _).grown hgrow1 (by simp; omega) (fun k hk => (HOWN.out.lt k hk).1))
  have hsz1 := B1.out.size
  have HC := hid (uint_any B (n + 1) q hq1 v1 (xs ++ [Value.int .u8 45]) w1 hown1 (by omega) (by omega) (HTAB.out w1 B1.out))
  clear hown1 hgrow1 HOWN HTAB
  go_wp2_with fail
  refine HC.out.mono ?_
  rintro e w2 ⟨v2, rfl, h2, b2⟩
  clear HC
  have hsz2 := b2.size
  have H2 := hid h2
  have B2 := hid b2
  clear h2 b2
  have hdl := nDig q hq1
  go_wp2_with (at_builtin; refine wpList_append_own _ rfl _ _ 22 rfl B 5 i0 (.int .u8 0) 1 1 Tryd.underlying22 hi hz0 hz1 hz2 rfl (by decide) v2 (n + 1 + (Lib.decDigits q).length) (xs ++ [Value.int .u8 45] ++ Lib.byteCells (Lib.decDigits q)) rfl (H2.out.alloc _) ⟨w2.heap.size, 0, none⟩ 3 3 [Value.int .u8 46, .int .u8 (48 + (t : Int)), .int .u8 (48 + (o : Int))] rfl rfl (by intro j u' hj; match j, hj with | 0, hj => simp at hj; subst hj; simp [Addr.add] | 1, hj => simp at hj; subst hj; simp [Addr.add] | 2, hj => simp at hj; subst hj; simp [Addr.add]) (by intro u' hu'; simp at hu'; rcases hu' with rfl | rfl | rfl <;> rfl) (by unfold maxLen; omega) (by omega) (by simp; omega) ?_)
  intro v3 w3 hown3 hgrow _
  have B3 := hid ((B1.out.trans B2.out).trans (((Below.refl B w2).alloc (by omega) _).grown hgrow (by simp; omega) (fun k hk => (H2.out.lt k hk).1)))
  have H3 := hid hown3
  clear hown3 hgrow
  go_wp2_with fail
  go_ret
  refine ⟨v3, rfl, ?_, B3.out⟩
  rw [HA.out, List.length_append, List.length_append, ← Nat.add_assoc, ← Nat.add_assoc, Lib.byteCells_append, Lib.byteCells_append, byteCells3 t o ht1 ho1]
  exact H3.out
end Go.Proofs.Qxb6617515aDoor
