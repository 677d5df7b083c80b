/- (*table).unindex. -/
import Derived.Test.Qxb6623513aDom
namespace Go.Proofs.Qxb6623513a
open Go.RowKit
set_option linter.unusedVariables false

/-- Nothing but block T has changed. -/
structure Onl (T : Nat) (w w' : World) : Prop where
  below : Below T w w'
  rest : ∀ b, b ≠ T → w'.heap[b]? = w.heap[b]?
  size : w'.heap.size = w.heap.size

theorem Onl.refl (T : Nat) (w : World) : Onl T w w := ⟨Below.refl _ _, fun _ _ => rfl, rfl⟩
theorem Onl.set {T : Nat} {w w' : World} (h : Onl T w w') (i : Nat) (v : Value) : Onl T w (w'.setCell ⟨T, i, none⟩ v) :=
  ⟨h.below.setCell (Nat.le_refl _) v, fun b hb => by rw [Below.heap_setCell _ _ _ _ hb]; exact h.rest b hb, by simp [h.size]⟩
theorem Onl.drew {T : Nat} {w w' : World} (h : Onl T w w') : Onl T w w'.drew := ⟨h.below.drew, h.rest, h.size⟩
theorem Onl.drewN {T : Nat} {w w' : World} (h : Onl T w w') (q : Nat) : Onl T w (w'.drewN q) := ⟨⟨h.below.os, h.below.tape, h.below.output, h.below.size, h.below.block⟩, h.rest, h.size⟩
theorem Onl.cell {T : Nat} {w w' : World} (h : Onl T w w') {p : Addr} (hp : p.block ≠ T) : w'.cell? p = w.cell? p := World.cell?_of_block (w := w) (h.rest _ hp)

/-- The table struct at X, its slots at S, its index at T. -/
structure Tbl (w : World) (X S nk T N : Nat) (K0 ix : Nat → Int) : Prop where
  neX : X ≠ T
  neS : S ≠ T
  slots : w.cell? ⟨X, 0, none⟩ = some (.slice (some ⟨S, 0, none⟩) nk nk)
  index : w.cell? ⟨X, 1, none⟩ = some (.slice (some ⟨T, 0, none⟩) N N)
  key : ∀ i, i < nk → w.cell? ⟨S, i * 6, none⟩ = some (.int .u64 (K0 i))
  row : Row w T N ix

theorem Tbl.set {w : World} {X S nk T N : Nat} {K0 ix : Nat → Int} (h : Tbl w X S nk T N K0 ix) (i : Nat) (v : Int) : Tbl (w.setCell ⟨T, i, none⟩ (.int .u32 v)) X S nk T N K0 (fun j => if j = i then v else ix j) := by
  have o : ∀ p : Addr, p.block ≠ T → (w.setCell ⟨T, i, none⟩ (.int .u32 v)).cell? p = w.cell? p := fun p hp => World.cell?_setCell_other _ _ _ _ (fun e => hp (by have := congrArg Addr.block e; simpa using this.symm))
  exact ⟨h.neX, h.neS, by rw [o _ h.neX]; exact h.slots, by rw [o _ h.neX]; exact h.index, fun i hi => by rw [o _ h.neS]; exact h.key i hi, h.row.set i v⟩
theorem Tbl.drew {w : World} {X S nk T N : Nat} {K0 ix : Nat → Int} (h : Tbl w X S nk T N K0 ix) : Tbl w.drew X S nk T N K0 ix := ⟨h.neX, h.neS, h.slots, h.index, h.key, h.row⟩
theorem Tbl.drewN {w : World} {X S nk T N : Nat} {K0 ix : Nat → Int} (h : Tbl w X S nk T N K0 ix) (q : Nat) : Tbl (w.drewN q) X S nk T N K0 ix := ⟨h.neX, h.neS, h.slots, h.index, h.key, h.row⟩

def UnPost (e0 r X S nk T N : Nat) (K0 I : Nat → Int) (w : World) (e : Ending) (w' : World) : Prop :=
  e = .returned (.tuple #[]) ∧ Onl T w w' ∧ ∃ ix c, Tbl w' X S nk T N K0 ix ∧ Clr N e0 K0 I r c ix ∧ StopAt N e0 I r c

set_option maxHeartbeats 1000000 in
set_option maxRecDepth 100000 in
theorem unindex_any (X S nk T N e0 r : Nat) (K0 I : Nat → Int) (w : World) (hM : Mask N) (hN : N ≤ 4096) (hnk : nk ≤ 65536) (hw : WF N nk K0 I) (he : e0 < N) (hIe : I e0 = 0) (hr : r < N) (L : Pl.Lin N r (kkOf N e0 (Hs K0 I)) (ocOf N e0 I)) (hT : Tbl w X S nk T N K0 I) :
    Calls Try.prog 14 #[.pointer (some ⟨X, 0, none⟩), .int .i64 (P N e0 r : Nat)] w (UnPost e0 r X S nk T N K0 I w) := by
  have hN1 : 1 ≤ N := by omega
  have HM := hid hM
  have HW := hid hw
  have HL := hid L
  have HIe := hid hIe
  have hpr := P_lt hN1 e0 r
  have x0 := hT.index
  have eQ : bits .and .i64 ((P N e0 r : Int) + 1) ((N : Int) - 1) = ((P N e0 (r + 1) : Nat) : Int) := by rw [hM.1, P_succ hN1, Int.natCast_emod]; simp
  have HT := hid hT
  clear hM hw L hIe hT
  go_enter Try.func14, Try.ntmps14
  go_wp2
  clear x0 eQ
  go_loopg [1, 5] (N - r) (fun g s7 s8 wx => ∃ c : Nat, r ≤ c ∧ c + 1 ≤ N ∧ g = N - c ∧ s7 = .int .i64 (P N e0 (holOf N e0 K0 I r c)) ∧ s8 = .int .i64 (P N e0 (c + 1)) ∧ Onl T w wx ∧ (∀ t, r < t → t ≤ c → I (P N e0 t) ≠ 0) ∧ ∃ ix, Tbl wx X S nk T N K0 ix ∧ Shf N e0 K0 I r c ix)
  case atStart => exact ⟨r, Nat.le_refl _, by omega, rfl, by rw [show holOf N e0 K0 I r r = r from Pl.hol_at HL.out], rfl, Onl.refl _ _, fun t h1 h2 => absurd h1 (by omega), I, HT.out, Shf.start HL.out⟩
  case round =>
    obtain ⟨c, hc1, hc2, rfl, rfl, rfl, hO, hall, ix, hI2, hF⟩ := hrel
    clear HT
    have hpj := P_lt hN1 e0 (c + 1)
    have hph := P_lt hN1 e0 (holOf N e0 K0 I r c)
    have hhr := hol_range (K := K0) (I := I) HL.out hc1
    have x0 := hI2.index
    have x1 := hI2.slots
    have g1 := hI2.row.cell hpj
    have g1e := hF.next hc2
    rw [g1e] at g1
    have g3 := hI2.row.cell hph
    have g5 := hI2.row.frozen (P N e0 (holOf N e0 K0 I r c))
    have HA := hid hall
    have HO := hid hO
    clear hall hO
    by_cases u1 : I (P N e0 (c + 1)) = 0
    · have v1 : (I (P N e0 (c + 1)) != 0) = false := by rw [u1]; rfl
      have HF := hid hF.done
      have HI := hid (hI2.set (P N e0 (holOf N e0 K0 I r c)) 0)
      have HU := hid u1
      clear hF hI2 u1 g1e
      go_wp2
      go_end0
      exact ⟨rfl, HO.out.set _ _, _, c, HI.out, HF.out, hc1, hc2, HU.out, HA.out⟩
    · have v1 : (I (P N e0 (c + 1)) != 0) = true := bne_iff_ne.2 u1
      obtain ⟨w1, w2, w3⟩ := HW.out.2 _ hpj u1
      obtain ⟨v, hv⟩ : ∃ v : Nat, I (P N e0 (c + 1)) = (v : Int) + 1 := ⟨(I (P N e0 (c + 1)) - 1).toNat, by omega⟩
      have hvn : v < nk := by omega
      have g2 := hI2.key v hvn
      have eK : bits .and .u64 (K0 v) ((N : Int) - 1) = ((hm N (Hs K0 I) (P N e0 (c + 1)) : Nat) : Int) := by
        rw [HM.out.2.2, hm_cast hN1]; unfold Hs; rw [hv]; congr 2; omega
      have hk := hm_lt hN1 (Hs K0 I) (P N e0 (c + 1))
      have hcN : c + 1 < N := HL.out.tlt hc2 (ocOf_true.2 u1)
      have eD : bits .and .i64 ((P N e0 (c + 1) : Int) - (hm N (Hs K0 I) (P N e0 (c + 1)) : Int)) ((N : Int) - 1) = ((dsp N e0 (Hs K0 I) (c + 1) : Nat) : Int) := by rw [HM.out.1, dsp_cast hN1]
      have eE : bits .and .i64 ((P N e0 (c + 1) : Int) - (P N e0 (holOf N e0 K0 I r c) : Int)) ((N : Int) - 1) = ((c + 1 - holOf N e0 K0 I r c : Nat) : Int) := by rw [HM.out.1, P_diff hN1 e0 _ _ (by omega) (by omega)]
      have eQ : bits .and .i64 ((P N e0 (c + 1) : Int) + 1) ((N : Int) - 1) = ((P N e0 (c + 1 + 1) : Nat) : Int) := by rw [HM.out.1, P_succ hN1 e0 (c + 1), Int.natCast_emod]; simp
      have HN := hid (show ∀ t, r < t → t ≤ c + 1 → I (P N e0 t) ≠ 0 from fun t h1 h2 => by
        by_cases e : t = c + 1
        · subst e; exact u1
        · exact HA.out t h1 (by omega))
      rw [hv] at g1 v1
      by_cases u2 : c + 1 - holOf N e0 K0 I r c ≤ dsp N e0 (Hs K0 I) (c + 1)
      · have hk2 : kkOf N e0 (Hs K0 I) (c + 1) ≤ holOf N e0 K0 I r c := by unfold kkOf; omega
        have HFF := hF.move he HL.out hc1 hc2 u1 hk2
        rw [hv] at HFF
        have HF := hid HFF
        have HI := hid (hI2.set (P N e0 (holOf N e0 K0 I r c)) ((v : Int) + 1))
        have HV := hid hv
        clear HFF hF hI2 u1 g1e hv hk2 w1 w2 w3 HA
        go_wp2
        go_quiet (fail)
        go_wp2
        go_region
        all_goals go_wp2
        go_roundg (N - (c + 1))
        case measure => go_light; omega
        case rel => go_light; exact ⟨c + 1, by omega, by omega, rfl, by rw [HF.out.1], rfl, (HO.out.drewN _).set _ _, HN.out, _, HI.out.drewN _, HF.out.2⟩
      · have HF := hid (hF.stay hc1 (by unfold kkOf; omega))
        have HI := hid hI2
        have HV := hid hv
        clear hF hI2 u1 g1e hv w1 w2 w3 HA
        go_wp2
        go_quiet (fail)
        go_wp2
        go_roundg (N - (c + 1))
        case measure => go_light; omega
        case rel => go_light; exact ⟨c + 1, by omega, by omega, rfl, by rw [HF.out.1], rfl, HO.out.drewN _, HN.out, ix, HI.out.drewN _, HF.out.2⟩
end Go.Proofs.Qxb6623513a
