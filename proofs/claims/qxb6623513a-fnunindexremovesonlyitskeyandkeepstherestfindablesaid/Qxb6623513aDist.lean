/- zzDistinct. -/
import Derived.Test.Qxb6623513aDom
import Derived.Test.Qxb6623513aKeep
namespace Go.Proofs.Qxb6623513a
open Go.RowKit
set_option linter.unusedVariables false

theorem Try.info4 : (Try.prog.info? 4).map (fun i => (i.zero, i.size, i.bytes)) = some (some (.bool false), 1, 1) := by kernel_rfl

/-- Do the first k cells name v? -/
def nam (I : Nat → Int) : Nat → Nat → Bool
  | 0, _ => false
  | k + 1, v => nam I k v || (I k == (v : Int) && v != 0)

theorem nam_iff (I : Nat → Int) (k v : Nat) : nam I k v = true ↔ v ≠ 0 ∧ ∃ p, p < k ∧ I p = (v : Int) := by
  induction k with
  | zero => simp [nam]
  | succ k ih =>
    rw [nam, Bool.or_eq_true, ih, Bool.and_eq_true, beq_iff_eq, bne_iff_ne]
    constructor
    · rintro (⟨h, p, h1, h2⟩ | ⟨h1, h2⟩)
      · exact ⟨h, p, by omega, h2⟩
      · exact ⟨h2, k, by omega, h1⟩
    · rintro ⟨h, p, h1, h2⟩
      by_cases e : p = k
      · subst e; exact .inr ⟨h2, h⟩
      · exact .inl ⟨h, p, by omega, h2⟩

theorem nam_skip (I : Nat → Int) (k : Nat) (h : I k = 0) (j : Nat) : nam I k j = nam I (k + 1) j := by
  rw [nam]
  by_cases e : j = 0
  · simp [e]
  · have : (I k == (j : Int)) = false := beq_eq_false_iff_ne.2 (by omega)
    simp [this]
theorem nam_put (I : Nat → Int) (k V : Nat) (h : I k = (V : Int) + 1) (j : Nat) : (if j = V + 1 then true else nam I k j) = nam I (k + 1) j := by
  rw [nam]
  by_cases e : j = V + 1
  · subst e
    simp [h]
  · have : (I k == (j : Int)) = false := beq_eq_false_iff_ne.2 (by omega)
    simp [this, e]

/-- Block b is a row of n truth values, the call's own. -/
def BRow (w : World) (b n : Nat) (f : Nat → Bool) : Prop := w.rowIs b 4 n (fun i => .bool (f i))
theorem BRow.cell {w : World} {b n : Nat} {f : Nat → Bool} (h : BRow w b n f) {i : Nat} (hi : i < n) : w.cell? ⟨b, i, none⟩ = some (.bool (f i)) := World.rowIs.cell h hi
theorem BRow.frozen {w : World} {b n : Nat} {f : Nat → Bool} (h : BRow w b n f) (i : Nat) : w.frozen? ⟨b, i, none⟩ = false := World.rowIs.frozen h i
theorem BRow.congr {w : World} {b n : Nat} {f g : Nat → Bool} (h : BRow w b n f) (e : ∀ i, i < n → f i = g i) : BRow w b n g := World.rowIs.congr h (fun i hi => by rw [e i hi])
theorem BRow.set {w : World} {b n : Nat} {f : Nat → Bool} (h : BRow w b n f) (i : Nat) (v : Bool) : BRow (w.setCell ⟨b, i, none⟩ (.bool v)) b n (fun j => if j = i then v else f j) :=
  (World.rowIs.set h i _).congr (fun j _ => by by_cases e : j = i <;> simp [e])
theorem BRow.other {w : World} {b n : Nat} {f : Nat → Bool} (h : BRow w b n f) {a : Addr} (ha : b ≠ a.block) (v : Value) : BRow (w.setCell a v) b n f := World.rowIs.setOther h ha v
theorem BRow.alloc {w : World} {b n : Nat} {f : Nat → Bool} (h : BRow w b n f) (o : Obj) : BRow (w.alloc o) b n f := World.rowIs.alloc h o
theorem BRow.drew {w : World} {b n : Nat} {f : Nat → Bool} (h : BRow w b n f) : BRow w.drew b n f := h
theorem BRow.drewN {w : World} {b n : Nat} {f : Nat → Bool} (h : BRow w b n f) (q : Nat) : BRow (w.drewN q) b n f := h
theorem BRow.made (w : World) (n : Nat) : BRow (w.alloc (.cells (madeCells #[.bool false] n) 4)) w.heap.size n (fun _ => false) := World.rowIs_made w _ n 4

def DiPost (N : Nat) (I : Nat → Int) (w : World) (e : Ending) (w' : World) : Prop := ∃ bo : Bool, e = .returned (.bool bo) ∧ Below w.heap.size w w' ∧ w'.heap.size = w.heap.size + 1 ∧ (bo = true → Dis N I)

set_option maxHeartbeats 1000000 in
set_option maxRecDepth 100000 in
theorem dist_any (ka : Option Addr) (nk kc b off N c : Nat) (K I : Nat → Int) (w : World) (hN : N ≤ 4096) (hnk : nk ≤ 65536) (hw : WF N nk K I) (hI : IdxF w b off N I) (hb : b < w.heap.size) :
    Calls Try.prog 11 #[.slice ka nk kc, .slice (some ⟨b, off, none⟩) N c] w (DiPost N I w) := by
  have hmk := run_make_row' (P := Try.prog) 33 4 (.bool false) 1 Try.underlying33 Try.info4 rfl .i64 .i64 (nk + 1) (by omega) (by omega)
  rw [show ((nk + 1 : Nat) : Int) = (nk : Int) + 1 by omega] at hmk
  have HW := hid hw
  have HI := hid hI
  clear hw hI
  go_enter Try.func11, Try.ntmps11
  go_wp2
  clear hmk
  go_loopg [6] N (fun g s6 wx => ∃ k : Nat, k ≤ N ∧ g = N - k ∧ s6 = .int .i64 k ∧ BRow wx w.heap.size (nk + 1) (nam I k) ∧ Below w.heap.size w wx ∧ wx.heap.size = w.heap.size + 1 ∧ ∀ p q, p < k → q < k → I p ≠ 0 → I p = I q → p = q)
  case atStart => exact ⟨0, Nat.zero_le _, rfl, rfl, (BRow.made w (nk + 1)).congr (fun _ _ => rfl), (Below.refl _ _).alloc (Nat.le_refl _) _, by simp, fun p q hp => absurd hp (Nat.not_lt_zero _)⟩
  case round =>
    obtain ⟨k, hk, rfl, rfl, hR, hB, hs, hall⟩ := hrel
    have HA := hid hall
    have HB := hid hB
    clear hall
    by_cases hlt : k < N
    · have g1 : wr.cell? ⟨b, off + k, none⟩ = some (.int .u32 (I k)) := by rw [hB.cell (p := ⟨b, off + k, none⟩) hb]; exact HI.out k hlt
      clear hB
      by_cases t1 : I k = 0
      · have t1' : (I k == 0) = true := beq_iff_eq.2 t1
        have HR := hid (hR.congr (fun j _ => nam_skip I k t1 j))
        have HN := hid (show ∀ p q, p < k + 1 → q < k + 1 → I p ≠ 0 → I p = I q → p = q from fun p q hp hq hne he => by
          by_cases e1 : p = k
          · subst e1; exact absurd t1 hne
          · by_cases e2 : q = k
            · subst e2; rw [t1] at he; exact absurd he hne
            · exact HA.out p q (by omega) (by omega) hne he)
        clear t1 hR
        go_wp2
        go_roundg (N - (k + 1))
        case measure => go_light; omega
        case rel => go_light; exact ⟨k + 1, by omega, rfl, by go_num, HR.out, HB.out, hs, HN.out⟩
      · have t1' : (I k == 0) = false := beq_eq_false_iff_ne.2 t1
        obtain ⟨w1, w2, _⟩ := HW.out.2 k hlt t1
        obtain ⟨V, hV⟩ : ∃ V : Nat, I k = (V : Int) + 1 := ⟨(I k - 1).toNat, by omega⟩
        have hVn : V < nk := by omega
        have g2 : wr.cell? ⟨w.heap.size, V + 1, none⟩ = some (.bool (nam I k (V + 1))) := hR.cell (by omega)
        have g3 := hR.frozen (V + 1)
        cases hs1 : nam I k (V + 1) with
        | true =>
          rw [hs1] at g2
          rw [hV] at g1 t1'
          clear w1 w2 t1 hV hR hs1
          go_wp2
          go_ret
          exact ⟨false, rfl, HB.out, hs, fun h => by cases h⟩
        | false =>
          have HR := hid ((hR.set (V + 1) true).congr (fun j _ => nam_put I k V hV j))
          have HN := hid (show ∀ p q, p < k + 1 → q < k + 1 → I p ≠ 0 → I p = I q → p = q from fun p q hp hq hne he => by
            have hno : ∀ x, x < k → I x ≠ I k := fun x hx he' => by
              have := (nam_iff I k (V + 1)).2 ⟨by omega, x, hx, by omega⟩
              rw [hs1] at this; cases this
            by_cases e1 : p = k
            · by_cases e2 : q = k
              · omega
              · subst e1; exact absurd he.symm (hno q (by omega))
            · by_cases e2 : q = k
              · subst e2; exact absurd he (hno p (by omega))
              · exact HA.out p q (by omega) (by omega) hne he)
          rw [hs1] at g2
          rw [hV] at g1 t1'
          clear w1 w2 t1 hV hR hs1
          go_wp2
          go_roundg (N - (k + 1))
          case measure => go_light; omega
          case rel => go_light; exact ⟨k + 1, by omega, rfl, by go_num, HR.out, HB.out.setCell (Nat.le_refl _) _, by simp [hs], HN.out⟩
    · obtain rfl : N = k := by omega
      clear hB
      go_wp2
      go_ret
      exact ⟨true, rfl, HB.out, hs, fun _ => HA.out⟩
end Go.Proofs.Qxb6623513a
