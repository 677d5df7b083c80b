/- The small functions: zzBytes, zzClone, zzEq, zzHasPrefix, zzIsMinusOf, zzIsDigit. -/
import Derived.Test.Qxb6617515aDoorRows
import Derived.WalkKit
import Derived.WalkLawsBesides
import Derived.Deep.LoopGhost
import Derived.Deep.OwnRows
import Derived.Deep.Light
import Derived.Deep.QuietTactic
import Derived.BigQuiet
import Derived.BigRegion
import Derived.Below
import Derived.Laws.OwnMore
namespace Go.Proofs.Qxb6617515aDoor
open Go.RowKit
set_option linter.unusedVariables false

theorem hid {p : Prop} (h : p) : Hid p := h
theorem Tryd.info5 : (Tryd.prog.info? 5).map (fun i => (i.zero, i.size, i.bytes)) = some (some (.int .u8 0), 1, 1) := by kernel_rfl

/-- A slice of bytes that reads as f. -/
def ByF (w : World) (a : Option Addr) (n : Nat) (f : Nat → Int) : Prop := 0 < n → ∃ b off, a = some ⟨b, off, none⟩ ∧ ∀ i, i < n → w.cell? ⟨b, off + i, none⟩ = some (.int .u8 (f i))

def DrewPost (w : World) (v : Value) (e : Ending) (w' : World) : Prop := e = .returned v ∧ ∃ q, w' = w.drewN q
theorem bytes_any (a : Int) (s : Option Addr) (n c : Nat) (w : World) : Calls Tryd.prog 4 #[.int .i64 a, .slice s n c] w fun e w' => ∃ bo : Bool, e = .returned (.bool bo) ∧ w' = w := by
  go_enter Tryd.func4, Tryd.ntmps4
  go_wp2
  all_goals (go_ret; exact ⟨_, rfl, rfl⟩)

theorem digit_any (z : Int) (w : World) : Calls Tryd.prog 12 #[.int .u8 z] w fun e w' => e = .returned (.bool (decide (48 ≤ z) && decide (z ≤ 57))) ∧ w' = w := by
  by_cases h : 48 ≤ z
  · go_enter Tryd.func12, Tryd.ntmps12
    go_wp2
    go_ret
    exact ⟨by simp [h], rfl⟩
  · go_enter Tryd.func12, Tryd.ntmps12
    go_wp2
    go_ret
    exact ⟨by simp; omega, rfl⟩

set_option maxHeartbeats 1000000 in
theorem eq_any (a b : Option Addr) (n ca cb : Nat) (f g : Nat → Int) (w : World) (hn : n ≤ 1048576) (hf : ByF w a n f) (hg : ByF w b n g) (he : ∀ i, i < n → f i = g i) :
    Calls Tryd.prog 10 #[.slice a n ca, .slice b n cb] w (DrewPost w (.bool true)) := by
  have HF := hid hf
  have HG := hid hg
  have HE := hid he
  clear hf hg he
  go_enter Tryd.func10, Tryd.ntmps10
  go_wp2
  go_loopg [5] n (fun g s5 wx => ∃ k q : Nat, k ≤ n ∧ g = n - k ∧ s5 = .int .i64 k ∧ wx = w.drewN q)
  case atStart => exact ⟨0, 0, Nat.zero_le _, rfl, rfl, rfl⟩
  case round =>
    obtain ⟨k, q, hk, rfl, rfl, hw⟩ := hrel
    by_cases hlt : k < n
    · obtain ⟨b1, o1, rfl, h1⟩ := HF.out (by omega)
      obtain ⟨b2, o2, rfl, h2⟩ := HG.out (by omega)
      have g1 : wr.cell? ⟨b1, o1 + k, none⟩ = some (.int .u8 (f k)) := by rw [hw]; exact h1 k hlt
      have g2 : wr.cell? ⟨b2, o2 + k, none⟩ = some (.int .u8 (f k)) := by rw [hw, HE.out k hlt]; exact h2 k hlt
      have hd : (f k != f k) = false := by simp
      have hltz : (k : Int) < (n : Int) := by omega
      have HQ := hid hw
      clear h1 h2 hw
      go_wp2
      go_quiet (fail)
      go_wp2
      go_roundg (n - (k + 1))
      case measure => go_light; omega
      case rel =>
        go_light
        refine ⟨k + 1, q + nq, by omega, rfl, by go_num, ?_⟩
        rw [HQ.out]; simp [World.drewN, Nat.add_assoc]
    · go_wp2
      go_ret
      exact ⟨rfl, q, rfl⟩

/-- Block b is a row of n bytes, the call's own. -/
def Row (w : World) (b n : Nat) (f : Nat → Int) : Prop := w.rowIs b 5 n (fun i => .int .u8 (f i))
theorem Row.cell {w : World} {b n : Nat} {f : Nat → Int} (h : Row w b n f) {i : Nat} (hi : i < n) : w.cell? ⟨b, i, none⟩ = some (.int .u8 (f i)) := World.rowIs.cell h hi
theorem Row.frozen {w : World} {b n : Nat} {f : Nat → Int} (h : Row w b n f) (i : Nat) : w.frozen? ⟨b, i, none⟩ = false := World.rowIs.frozen h i
theorem Row.congr {w : World} {b n : Nat} {f g : Nat → Int} (h : Row w b n f) (e : ∀ i, i < n → f i = g i) : Row w b n g := World.rowIs.congr h (fun i hi => by rw [e i hi])
theorem Row.set {w : World} {b n : Nat} {f : Nat → Int} (h : Row w b n f) (i : Nat) (v : Int) : Row (w.setCell ⟨b, i, none⟩ (.int .u8 v)) b n (fun j => if j = i then v else f j) :=
  (World.rowIs.set h i _).congr (fun j _ => by by_cases e : j = i <;> simp [e])
theorem Row.made (w : World) (n : Nat) : Row (w.alloc (.cells (madeCells #[.int .u8 0] n) 5)) w.heap.size n (fun _ => 0) := World.rowIs_made w _ n 5

/-- The cells of f's first n bytes. -/
def cellsF (n : Nat) (f : Nat → Int) : List Value := (List.range n).map (fun i => .int .u8 (f i))
theorem Row.owns {w : World} {b n B : Nat} {f : Nat → Int} (h : Row w b n f) (hB : B ≤ b) (hn : n ≤ maxLen) : w.ownsRow B 5 1 (.slice (some ⟨b, 0, none⟩) n n) n (cellsF n f) := by
  obtain ⟨c, hb, hs, hc⟩ := h
  refine ⟨by simp [cellsF], .inr ⟨b, n, c, rfl, hB, hb, Nat.le_refl _, hn, by omega, ?_⟩⟩
  apply List.ext_getElem?
  intro j
  by_cases hj : j < n
  · have := hc j hj
    simp [cellsF, hj, this]
  · simp [cellsF, hj, hs]

def ClPost (n : Nat) (f : Nat → Int) (w : World) (e : Ending) (w' : World) : Prop := ∃ v, e = .returned v ∧ w'.ownsRow w.heap.size 5 1 v n (cellsF n f) ∧ Below w.heap.size w w'

set_option maxHeartbeats 400000 in
theorem clone_nil (w : World) (f : Nat → Int) : Calls Tryd.prog 5 #[.slice none 0 0] w (ClPost 0 f w) := by
  have q22 : ∀ (w : World) (a : Option Addr) (n c n' c' : Nat), (binOp .eql 22 (.slice a n c) (.slice none n' c')).run Tryd.prog w = .ok (.bool a.isNone) w := fun w a n c n' c' => Lib.run_eql_slice_nil w _ _ a n c n' c' Tryd.underlying22
  go_enter Tryd.func5, Tryd.ntmps5
  go_wp2
  go_ret
  exact ⟨_, rfl, World.ownsRow_nil _ _ _ _, Below.refl _ _⟩

set_option maxHeartbeats 400000 in
theorem clone_some (p : Addr) (n c : Nat) (f : Nat → Int) (w : World) (hn : n ≤ 65536) (hp : 0 < n → p.block < w.heap.size) (hf : ByF w (some p) n f) :
    Calls Tryd.prog 5 #[.slice (some p) n c] w (ClPost n f w) := by
  have hmk := run_make_row' (P := Tryd.prog) 22 5 (.int .u8 0) 1 Tryd.underlying22 Tryd.info5 rfl .i64 .i64 n (by omega) (by omega)
  have HF := hid hf
  have q22 : ∀ (w : World) (a : Option Addr) (n c n' c' : Nat), (binOp .eql 22 (.slice a n c) (.slice none n' c')).run Tryd.prog w = .ok (.bool a.isNone) w := fun w a n c n' c' => Lib.run_eql_slice_nil w _ _ a n c n' c' Tryd.underlying22
  clear hf
  go_enter Tryd.func5, Tryd.ntmps5
  go_wp2
  clear hmk q22
  go_loopg [4] n (fun g s4 wx => ∃ k : Nat, k ≤ n ∧ g = n - k ∧ s4 = .int .i64 k ∧ Row wx w.heap.size n (fun j => if j < k then f j else 0) ∧ Below w.heap.size w wx)
  case atStart => exact ⟨0, Nat.zero_le _, rfl, rfl, (Row.made w n).congr (fun _ _ => by simp), (Below.refl _ _).alloc (Nat.le_refl _) _⟩
  case round =>
    obtain ⟨k, hk, rfl, rfl, hR, hB⟩ := hrel
    by_cases hlt : k < n
    · obtain ⟨b, off, hpe, hc⟩ := HF.out (by omega)
      have hb := hp (by omega)
      cases hpe
      have h1 : wr.cell? ⟨b, off + k, none⟩ = some (.int .u8 (f k)) := by rw [hB.cell (p := ⟨b, off + k, none⟩) hb]; exact hc k hlt
      have h2 : wr.cell? ⟨w.heap.size, k, none⟩ = some (.int .u8 0) := by simpa using hR.cell hlt
      have h3 := hR.frozen k
      have HR := hid (hR.set k (f k))
      have HB := hid hB
      clear hc hR hB
      go_wp2
      go_roundg (n - (k + 1))
      case measure => go_light; omega
      case rel =>
        go_light
        refine ⟨k + 1, by omega, rfl, by go_num, HR.out.congr (fun j _ => ?_), HB.out.setCell (Nat.le_refl _) _⟩
        by_cases e : j = k
        · subst e; simp
        · by_cases e2 : j < k
          · simp [e, e2, show j < k + 1 by omega]
          · simp [e, e2, show ¬ j < k + 1 by omega]
    · go_wp2
      go_ret
      exact ⟨_, rfl, (hR.congr (fun i hi => by rw [if_pos (by omega)])).owns (Nat.le_refl _) (by unfold maxLen; omega), hB⟩
end Go.Proofs.Qxb6617515aDoor
