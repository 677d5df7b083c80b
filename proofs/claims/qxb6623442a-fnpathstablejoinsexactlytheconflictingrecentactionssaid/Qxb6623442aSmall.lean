/- The law's small helpers. -/
import Derived.Test.Qxb6623442aFrm
namespace Go.Proofs.Qxb6623442a
open Go.RowKit
set_option linter.unusedVariables false

theorem Try.info3 : (Try.prog.info? 3).map (fun i => (i.zero, i.size, i.bytes)) = some (some (.int .i64 0), 1, 8) := by kernel_rfl
theorem Try.info23 : (Try.prog.info? 23).map (fun i => (i.zero, i.size, i.bytes)) = some (some (.slice none 0 0), 1, 24) := by kernel_rfl
theorem Try.info4 : (Try.prog.info? 4).map (fun i => (i.zero, i.size, i.bytes)) = some (some (.bool false), 1, 1) := by kernel_rfl

def AllPost (n : Nat) (f : Nat → Int) (m : Nat) (w : World) (e : Ending) (w' : World) : Prop :=
  ∃ bo : Bool, e = .returned (.bool bo) ∧ w' = w ∧ (bo = true → ∀ i, i < n → 0 ≤ f i ∧ f i < (m : Int))

set_option maxHeartbeats 400000 in
theorem all_any (Fr : Nat → Prop) (a : Option Addr) (n c m : Nat) (f : Nat → Int) (w : World) (hn : n ≤ 1048576) (hs : SlF Fr w a n f) :
    Calls Try.prog 5 #[.slice a n c, .int .i64 (m : Int)] w (AllPost n f m w) := by
  go_enter Try.func5, Try.ntmps5
  go_wp2
  go_loopg [5] n (fun g s5 wr => wr = w ∧ ∃ k : Nat, k ≤ n ∧ g = n - k ∧ s5 = .int .i64 k ∧ ∀ i, i < k → 0 ≤ f i ∧ f i < (m : Int))
  case atStart => exact ⟨rfl, 0, Nat.zero_le _, rfl, rfl, fun i hi => absurd hi (Nat.not_lt_zero _)⟩
  case round =>
    obtain ⟨rfl, k, hk, rfl, rfl, hall⟩ := hrel
    have HA : Hid (∀ i, i < k → 0 ≤ f i ∧ f i < (m : Int)) := hall
    clear hall
    by_cases hlt : k < n
    · obtain ⟨b, off, rfl, _, hc⟩ := hs (by omega)
      have g1 := hc k hlt
      clear hc hs
      by_cases t1 : f k < 0
      · go_wp2
        go_ret
        exact ⟨false, rfl, rfl, fun h => by cases h⟩
      · by_cases t2 : (m : Int) ≤ f k
        · go_wp2
          go_ret
          exact ⟨false, rfl, rfl, fun h => by cases h⟩
        · go_wp2
          go_roundg (n - (k + 1))
          case measure => go_light; omega
          case rel =>
            go_light
            refine ⟨rfl, k + 1, by omega, rfl, by go_num, fun i hi => ?_⟩
            by_cases e : i = k
            · subst e; omega
            · exact HA.out i (by omega)
    · go_wp2
      go_ret
      exact ⟨true, rfl, rfl, fun _ i hi => HA.out i (by omega)⟩

def ClonePost (n : Nat) (f : Nat → Int) (w : World) (e : Ending) (w' : World) : Prop :=
  ∃ a', e = .returned (.slice a' n n) ∧ Below w.heap.size w w' ∧ ((a' = none ∧ n = 0 ∧ w' = w) ∨ (a' = some ⟨w.heap.size, 0, none⟩ ∧ w'.rowIs w.heap.size 3 n (fun i => .int .i64 (f i)) ∧ w'.heap.size = w.heap.size + 1))

theorem ClonePost.size {n : Nat} {f : Nat → Int} {w w' : World} {e : Ending} (h : ClonePost n f w e w') : w.heap.size ≤ w'.heap.size := by
  obtain ⟨a', _, hb, _⟩ := h; exact hb.size

set_option maxHeartbeats 400000 in
theorem clone_any (Fr : Nat → Prop) (a : Option Addr) (n c : Nat) (f : Nat → Int) (w : World) (hn : n ≤ 1048576) (hnil : a = none → n = 0) (hs : SlF Fr w a n f) :
    Calls Try.prog 7 #[.slice a n c] w (ClonePost n f w) := by
  have hmk := run_make_row' (P := Try.prog) 23 3 (.int .i64 0) 8 Try.underlying23 Try.info3 rfl .i64 .i64 n (by omega) (by omega)
  have q23 : ∀ (w : World) (a : Option Addr) (n c n' c' : Nat), (binOp .eql 23 (.slice a n c) (.slice none n' c')).run Try.prog w = .ok (.bool a.isNone) w := fun w a n c n' c' => Lib.run_eql_slice_nil w _ _ a n c n' c' Try.underlying23
  cases a with
  | none =>
    obtain rfl := hnil rfl
    go_enter Try.func7, Try.ntmps7
    go_wp2
    go_ret
    exact ⟨none, rfl, Below.refl _ _, .inl ⟨rfl, rfl, rfl⟩⟩
  | some x =>
    clear hnil
    go_enter Try.func7, Try.ntmps7
    go_wp2
    clear hmk q23
    go_loopg [4] n (fun g i wr => ∃ k : Nat, k ≤ n ∧ g = n - k ∧ i = .int .i64 k ∧ wr.rowIs w.heap.size 3 n (fun j => .int .i64 (if j < k then f j else 0)) ∧ Below w.heap.size w wr ∧ wr.heap.size = w.heap.size + 1)
    case atStart => exact ⟨0, Nat.zero_le _, rfl, rfl, (World.rowIs_made w _ n 3).congr (fun _ _ => by simp), (Below.refl _ _).alloc (Nat.le_refl _) _, by simp⟩
    case round =>
      obtain ⟨k, hk, rfl, rfl, hR, hB, hsz⟩ := hrel
      by_cases hlt : k < n
      · obtain ⟨b, off, hx, _, hc⟩ := hs (by omega)
        cases hx
        have hb : b < w.heap.size := World.block_lt_of_cell? _ _ (hc k hlt)
        have h1 : wr.cell? ⟨b, off + k, none⟩ = some (.int .i64 (f k)) := by rw [hB.cell (p := ⟨b, off + k, none⟩) hb]; exact hc k hlt
        have h2 : wr.cell? ⟨w.heap.size, k, none⟩ = some (.int .i64 0) := by simpa using hR.cell hlt
        have h3 := hR.frozen k
        have HR := hR.set k (.int .i64 (f k))
        clear hc hR hs
        go_wp2
        go_roundg (n - (k + 1))
        case measure => go_light; omega
        case rel =>
          go_light
          refine ⟨k + 1, by omega, rfl, by go_num, HR.congr (fun j _ => ?_), hB.setCell (Nat.le_refl _) _, by simp [hsz]⟩
          by_cases e : j = k
          · subst e; simp
          · by_cases e2 : j < k
            · simp [e, e2, show j < k + 1 by omega]
            · simp [e, e2, show ¬ j < k + 1 by omega]
      · go_wp2
        go_ret
        exact ⟨_, rfl, hB, .inr ⟨rfl, hR.congr (fun i hi => by rw [if_pos (by omega)]), hsz⟩⟩

def EqPost (w : World) (e : Ending) (w' : World) : Prop := e = .returned (.bool true) ∧ ∃ q, w' = w.drewN q

set_option maxHeartbeats 400000 in
/-- 'zzEqInts' of two that read alike. -/
theorem eq_any (Fr Fr' : Nat → Prop) (a : Option Addr) (n c : Nat) (a' : Option Addr) (c' : Nat) (f g : Nat → Int) (w : World) (hn : n ≤ 1048577) (hs : SlF Fr w a n f) (hs' : SlF Fr' w a' n g) (he : ∀ i, i < n → f i = g i) :
    Calls Try.prog 10 #[.slice a n c, .slice a' n c'] w (EqPost w) := by
  have HE : Hid (∀ i, i < n → f i = g i) := he
  clear he
  have hnn : ((n : Int) != (n : Int)) = false := by simp
  go_enter Try.func10, Try.ntmps10
  go_wp2
  go_loopg [5] n (fun gh s5 wr => ∃ k q : Nat, k ≤ n ∧ gh = n - k ∧ s5 = .int .i64 k ∧ wr = w.drewN q)
  case atStart => exact ⟨0, 0, Nat.zero_le _, rfl, rfl, rfl⟩
  case round =>
    obtain ⟨k, q, hk, rfl, rfl, hw⟩ := hrel
    by_cases hlt : k < n
    · obtain ⟨b, off, rfl, _, hc⟩ := hs (by omega)
      obtain ⟨b', off', rfl, _, hc'⟩ := hs' (by omega)
      have g1 : wr.cell? ⟨b, off + k, none⟩ = some (.int .i64 (f k)) := by rw [hw]; exact hc k hlt
      have g2 : wr.cell? ⟨b', off' + k, none⟩ = some (.int .i64 (g k)) := by rw [hw]; exact hc' k hlt
      have g3 : (f k != g k) = false := by rw [HE.out k hlt]; simp
      have hltz : (k : Int) < (n : Int) := by omega
      have HW : Hid (wr = w.drewN q) := hw
      clear hw hc hc' hs hs'
      go_wp2
      go_quiet (fail)
      go_wp2
      go_roundg (n - (k + 1))
      case measure => go_light; omega
      case rel => go_light; exact ⟨k + 1, q + _, by omega, rfl, by go_num, by rw [HW.out]; exact World.drewN_drewN _ _ _⟩
    · have HW : Hid (wr = w.drewN q) := hw
      clear hw
      go_wp2
      go_ret
      exact ⟨rfl, q, HW.out⟩
end Go.Proofs.Qxb6623442a
