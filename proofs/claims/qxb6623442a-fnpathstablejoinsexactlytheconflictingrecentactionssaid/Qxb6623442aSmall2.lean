/- The law's small helpers: marks, clones of rows, the bound on lengths. -/
import Derived.Test.Qxb6623442aSmall
namespace Go.Proofs.Qxb6623442a
open Go.RowKit
set_option linter.unusedVariables false

/-- Is v among the first k numbers of F? -/
def hit (F : Nat → Int) : Nat → Nat → Bool
  | 0, _ => false
  | k + 1, v => hit F k v || (F k == (v : Int))

theorem hit_true {F : Nat → Int} {k v : Nat} (h : hit F k v = true) : ∃ i, i < k ∧ F i = (v : Int) := by
  induction k with
  | zero => cases h
  | succ k ih =>
    simp only [hit, Bool.or_eq_true, beq_iff_eq] at h
    rcases h with h | h
    · obtain ⟨i, a, b⟩ := ih h; exact ⟨i, by omega, b⟩
    · exact ⟨k, by omega, h⟩

def MarkPost (MB n : Nat) (M : Nat → Bool) (f : Nat → Int) (m : Nat) (w : World) (e : Ending) (w' : World) : Prop :=
  e = .returned (.tuple #[]) ∧ w'.rowIs MB 4 n (fun v => .bool (M v || hit f m v)) ∧ Fram (fun k => k ≠ MB) w w' ∧ w'.heap.size = w.heap.size

set_option maxHeartbeats 400000 in
theorem mark_any (Fr : Nat → Prop) (MB n mc : Nat) (M : Nat → Bool) (a : Option Addr) (m c : Nat) (f : Nat → Int) (w : World) (hn : n ≤ 1048576) (hm : m ≤ 1048576) (hM : w.rowIs MB 4 n (fun v => .bool (M v))) (hFr : ∀ k, Fr k → k ≠ MB) (hs : SlF Fr w a m f) (hin : ∀ i, i < m → 0 ≤ f i ∧ f i < (n : Int)) :
    Calls Try.prog 9 #[.slice (some ⟨MB, 0, none⟩) n mc, .slice a m c] w (MarkPost MB n M f m w) := by
  go_enter Try.func9, Try.ntmps9
  go_wp2
  go_loopg [4] m (fun g s4 wr => ∃ k : Nat, k ≤ m ∧ g = m - k ∧ s4 = .int .i64 k ∧ wr.rowIs MB 4 n (fun v => .bool (M v || hit f k v)) ∧ Fram (fun k => k ≠ MB) w wr ∧ wr.heap.size = w.heap.size)
  case atStart => exact ⟨0, Nat.zero_le _, rfl, rfl, hM.congr (fun i _ => by simp [hit]), Fram.refl _ _, rfl⟩
  case round =>
    obtain ⟨k, hk, rfl, rfl, hR, hF, hsz⟩ := hrel
    by_cases hlt : k < m
    · obtain ⟨b, off, rfl, hfr, hc⟩ := hs (by omega)
      obtain ⟨h0, h1⟩ := hin k hlt
      obtain ⟨v, hv⟩ := Int.eq_ofNat_of_zero_le h0
      have hvn : v < n := by omega
      have g1 : wr.cell? ⟨b, off + k, none⟩ = some (.int .i64 (v : Int)) := by rw [← hv]; exact hF.cell (hc k hlt) (hFr b hfr)
      have g2 := hR.cell hvn
      have g3 := hR.frozen v
      have HR := hR.set v (.bool true)
      have HV : Hid (f k = (v : Int)) := hv
      clear hv h0 h1 hc hs hin hR hM
      go_wp2
      go_roundg (m - (k + 1))
      case measure => go_light; omega
      case rel =>
        go_light
        refine ⟨k + 1, by omega, rfl, by go_num, HR.congr (fun j _ => ?_), hF.setCell (by simp) _, by simp [hsz]⟩
        by_cases e : j = v
        · subst e; simp [hit, HV.out]
        · have : (f k == (j : Int)) = false := by rw [HV.out]; exact beq_eq_false_iff_ne.2 (by omega)
          simp [e, hit, this]
    · obtain rfl : k = m := by omega
      go_wp2
      go_end0
      exact ⟨rfl, hR, hF, hsz⟩

def RowsPost (G : Nat) (L : Nat → Nat) (Z : Nat → Nat → Int) (w : World) (e : Ending) (w' : World) : Prop :=
  ∃ (ga' : Option Addr) (A' : Nat → Option Addr), e = .returned (.slice ga' G G) ∧ Below w.heap.size w w' ∧ (∀ r, r < G → A' r = none → L r = 0) ∧
    ((ga' = none ∧ G = 0) ∨ (ga' = some ⟨w.heap.size, 0, none⟩ ∧ w'.rowIs w.heap.size 23 G (fun r => .slice (A' r) (L r) (L r)) ∧ ∀ r, r < G → SlF (fun b => w.heap.size < b) w' (A' r) (L r) (Z r)))

set_option maxHeartbeats 800000 in
theorem rows_any (Fr : Nat → Prop) (ga : Option Addr) (G gc : Nat) (A : Nat → Option Addr) (L C : Nat → Nat) (Z : Nat → Nat → Int) (w : World) (hG : G ≤ 1048576) (hL : ∀ r, r < G → L r ≤ 1048576) (hnil : ga = none → G = 0) (hA : ∀ r, r < G → A r = none → L r = 0)
    (hs : RowsF Fr w ga G A L C Z) : Calls Try.prog 6 #[.slice ga G gc] w (RowsPost G L Z w) := by
  have hmk := run_make_row' (P := Try.prog) 22 23 (.slice none 0 0) 24 Try.underlying22 Try.info23 rfl .i64 .i64 G (by omega) (by omega)
  have q22 : ∀ (w : World) (a : Option Addr) (n c n' c' : Nat), (binOp .eql 22 (.slice a n c) (.slice none n' c')).run Try.prog w = .ok (.bool a.isNone) w := fun w a n c n' c' => Lib.run_eql_slice_nil w _ _ a n c n' c' Try.underlying22
  cases ga with
  | none =>
    obtain rfl := hnil rfl
    go_enter Try.func6, Try.ntmps6
    go_wp2
    go_ret
    exact ⟨none, fun _ => none, rfl, Below.refl _ _, fun r hr => absurd hr (Nat.not_lt_zero _), .inl ⟨rfl, rfl⟩⟩
  | some x =>
    clear hnil
    go_enter Try.func6, Try.ntmps6
    go_wp2
    clear hmk q22
    go_loopg [4] G (fun g i wr => ∃ (k : Nat) (A' : Nat → Option Addr), k ≤ G ∧ g = G - k ∧ i = .int .i64 k ∧ wr.rowIs w.heap.size 23 G (fun r => if r < k then .slice (A' r) (L r) (L r) else .slice none 0 0) ∧ Below w.heap.size w wr ∧ w.heap.size < wr.heap.size ∧ (∀ r, r < k → A' r = none → L r = 0) ∧ ∀ r, r < k → SlF (fun b => w.heap.size < b) wr (A' r) (L r) (Z r))
    case atStart => exact ⟨0, fun _ => none, Nat.zero_le _, rfl, rfl, (World.rowIs_made w _ G 23).congr (fun _ _ => by simp), (Below.refl _ _).alloc (Nat.le_refl _) _, by simp, fun r hr => absurd hr (Nat.not_lt_zero _), fun r hr => absurd hr (Nat.not_lt_zero _)⟩
    case round =>
      obtain ⟨k, A', hk, rfl, rfl, hR, hB, hsz, hN, hRow⟩ := hrel
      by_cases hlt : k < G
      · obtain ⟨b, off, hx, hfr, hc⟩ := hs (by omega)
        cases hx
        have hb : b < w.heap.size := World.block_lt_of_cell? _ _ (hc k hlt).1
        have h1 : wr.cell? ⟨b, off + k, none⟩ = some (.slice (A k) (L k) (C k)) := by rw [hB.cell (p := ⟨b, off + k, none⟩) hb]; exact (hc k hlt).1
        have hsl : SlF (fun b => b < w.heap.size) wr (A k) (L k) (Z k) := by
          refine SlF.fram ?_ (Fram.of_below hB (fun _ _ h => h))
          exact (hc k hlt).2.weak (fun k hk _ => hk)
        have hLk := hL k hlt
        have hAk := hA k hlt
        clear hc hs hA hL
        go_wp2_with fail
        refine (clone_any _ (A k) (L k) (C k) (Z k) wr hLk hAk hsl).mono ?_
        rintro e w1 ⟨a', rfl, hB1, hor⟩
        have hR1 : w1.rowIs w.heap.size 23 G (fun r => if r < k then .slice (A' r) (L r) (L r) else .slice none 0 0) := hR.of_block (hB1.block _ hsz)
        have h2 : w1.cell? ⟨w.heap.size, k, none⟩ = some (.slice none 0 0) := by simpa using hR1.cell hlt
        have h3 := hR1.frozen k
        have HR := hR1.set k (.slice a' (L k) (L k))
        have hBB := hB.trans (hB1.mono (by omega))
        have hs1 := hB1.size
        have HNew : Hid ((a' = none → L k = 0) ∧ SlF (fun b => w.heap.size < b) w1 a' (L k) (Z k)) := by
          rcases hor with ⟨e1, e2, _⟩ | ⟨e1, e2, e3⟩
          · exact ⟨fun _ => e2, by rw [e2]; exact SlF.zero _ _ _ _⟩
          · subst e1; exact ⟨(fun h => by cases h), SlF.of_row e2 hsz⟩
        have HOld : Hid (∀ r, r < k → SlF (fun b => w.heap.size < b) w1 (A' r) (L r) (Z r)) := fun r hr => by
          have h5 := (hRow r hr).weak (Fr' := fun b => w.heap.size < b ∧ b < wr.heap.size) (fun q hq h => ⟨h, hq⟩)
          exact (h5.fram (Fram.of_below hB1 (fun _ _ h => h.2))).weak (fun q _ h => h.1)
        clear hor hR hR1 hB1 hB hRow hsl h1
        go_wp2
        go_roundg (G - (k + 1))
        case measure => go_light; omega
        case rel =>
          go_light
          have hfz : Fram (fun b => w.heap.size < b) w1 (w1.setCell ⟨w.heap.size, k, none⟩ (.slice a' (L k) (L k))) := (Fram.refl _ _).setCell (by show ¬ w.heap.size < w.heap.size; omega) _
          refine ⟨k + 1, fun r => if r = k then a' else A' r, by omega, rfl, by go_num, HR.congr (fun j _ => ?_), hBB.setCell (Nat.le_refl _) _, by simp; omega, fun r hr => ?_, fun r hr => ?_⟩
          · by_cases e : j = k
            · subst e; simp
            · by_cases e2 : j < k
              · simp [e, e2, show j < k + 1 by omega]
              · simp [e, e2, show ¬ j < k + 1 by omega]
          · dsimp only
            by_cases e : r = k
            · subst e; rw [if_pos rfl]; exact HNew.out.1
            · rw [if_neg e]; exact hN r (by omega)
          · dsimp only
            by_cases e : r = k
            · subst e; rw [if_pos rfl]; exact HNew.out.2.fram hfz
            · rw [if_neg e]; exact (HOld.out r (by omega)).fram hfz
      · obtain rfl : k = G := by omega
        go_wp2
        go_ret
        exact ⟨_, A', rfl, hB, hN, .inr ⟨rfl, hR.congr (fun r hr => by rw [if_pos hr]), hRow⟩⟩
end Go.Proofs.Qxb6623442a
