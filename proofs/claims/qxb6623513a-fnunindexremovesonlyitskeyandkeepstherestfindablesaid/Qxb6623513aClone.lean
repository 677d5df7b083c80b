/- The clone. -/
import Derived.Test.Qxb6623513aRows
import Derived.WalkKit
import Derived.WalkLawsBesides
import Derived.Deep.LoopGhost
import Derived.Deep.OwnRows
import Derived.Deep.Light
import Derived.Below
namespace Go.Proofs.Qxb6623513a
open Go.RowKit

theorem Try.info29 : (Try.prog.info? 29).map (fun i => (i.zero, i.size, i.bytes)) = some (some (.int .u32 0), 1, 4) := by kernel_rfl

/-- Block b is a row of n numbers uint32, the call's own. -/
def Row (w : World) (b n : Nat) (f : Nat → Int) : Prop := w.rowIs b 29 n (fun i => .int .u32 (f i))

theorem Row.cell {w : World} {b n : Nat} {f : Nat → Int} (h : Row w b n f) {i : Nat} (hi : i < n) : w.cell? ⟨b, i, none⟩ = some (.int .u32 (f i)) := World.rowIs.cell h hi
theorem Row.frozen {w : World} {b n : Nat} {f : Nat → Int} (h : Row w b n f) (i : Nat) : w.frozen? ⟨b, i, none⟩ = false := World.rowIs.frozen h i
theorem Row.lt {w : World} {b n : Nat} {f : Nat → Int} (h : Row w b n f) : b < w.heap.size := World.rowIs.lt h
theorem Row.congr {w : World} {b n : Nat} {f g : Nat → Int} (h : Row w b n f) (e : ∀ i, i < n → f i = g i) : Row w b n g := World.rowIs.congr h (fun i hi => by rw [e i hi])
theorem Row.set {w : World} {b n : Nat} {f : Nat → Int} (h : Row w b n f) (i : Nat) (v : Int) : Row (w.setCell ⟨b, i, none⟩ (.int .u32 v)) b n (fun j => if j = i then v else f j) :=
  (World.rowIs.set h i _).congr (fun j _ => by by_cases e : j = i <;> simp [e])
theorem Row.other {w : World} {b n : Nat} {f : Nat → Int} (h : Row w b n f) {a : Addr} (ha : b ≠ a.block) (v : Value) : Row (w.setCell a v) b n f := World.rowIs.setOther h ha v
theorem Row.alloc {w : World} {b n : Nat} {f : Nat → Int} (h : Row w b n f) (o : Obj) : Row (w.alloc o) b n f := World.rowIs.alloc h o
theorem Row.drew {w : World} {b n : Nat} {f : Nat → Int} (h : Row w b n f) : Row w.drew b n f := h
theorem Row.drewN {w : World} {b n : Nat} {f : Nat → Int} (h : Row w b n f) (q : Nat) : Row (w.drewN q) b n f := h
theorem Row.below {B : Nat} {w w' : World} {b n : Nat} {f : Nat → Int} (h : Row w b n f) (hb : Below B w w') (hlt : b < B) : Row w' b n f := World.rowIs.of_block h (hb.block b hlt)
theorem Row.made (w : World) (n : Nat) : Row (w.alloc (.cells (madeCells #[.int .u32 0] n) 29)) w.heap.size n (fun _ => 0) := World.rowIs_made w _ n 29

set_option maxHeartbeats 400000 in
/-- 'zzCloneU32' at a slice that is not nil. -/
theorem clone_some (b off n c : Nat) (f : Nat → Int) (w : World) (hn : n ≤ 4096) (hb : b < w.heap.size) (hc : ∀ i, i < n → w.cell? ⟨b, off + i, none⟩ = some (.int .u32 (f i))) :
    Calls Try.prog 7 #[.slice (some ⟨b, off, none⟩) n c] w fun e w' => e = .returned (.slice (some ⟨w.heap.size, 0, none⟩) n n) ∧ Row w' w.heap.size n f ∧ Below w.heap.size w w' ∧ w'.heap.size = w.heap.size + 1 := by
  have hmk := run_make_row' (P := Try.prog) 23 29 (.int .u32 0) 4 Try.underlying23 Try.info29 rfl .i64 .i64 n (by omega) (by omega)
  have q23 : ∀ (w : World) (a : Option Addr) (n c n' c' : Nat), (binOp .eql 23 (.slice a n c) (.slice none n' c')).run Try.prog w = .ok (.bool a.isNone) w := fun w a n c n' c' => Lib.run_eql_slice_nil w _ _ a n c n' c' Try.underlying23
  go_enter Try.func7, Try.ntmps7
  go_wp2
  clear hmk q23
  go_loopg [4] n (fun g i wr => ∃ k : Nat, k ≤ n ∧ g = n - k ∧ i = .int .i64 k ∧ Row wr w.heap.size n (fun j => if j < k then f j else 0) ∧ Below w.heap.size w wr ∧ wr.heap.size = w.heap.size + 1)
  case atStart => exact ⟨0, Nat.zero_le _, rfl, rfl, (Row.made w n).congr (fun _ _ => by simp), (Below.refl _ _).alloc (Nat.le_refl _) _, by simp⟩
  case round =>
    obtain ⟨k, hk, rfl, rfl, hR, hB, hs⟩ := hrel
    by_cases hlt : k < n
    · have h1 : wr.cell? ⟨b, off + k, none⟩ = some (.int .u32 (f k)) := by rw [hB.cell (p := ⟨b, off + k, none⟩) hb]; exact hc k hlt
      have h2 : wr.cell? ⟨w.heap.size, k, none⟩ = some (.int .u32 0) := by simpa using hR.cell hlt
      have h3 := hR.frozen k
      have HR := hR.set k (f k)
      clear hc hR
      go_wp2
      go_roundg (n - (k + 1))
      case measure => go_light; omega
      case rel =>
        go_light
        refine ⟨k + 1, by omega, rfl, by go_num, HR.congr (fun j _ => ?_), hB.setCell (Nat.le_refl _) _, by simp [hs]⟩
        by_cases e : j = k
        · subst e; simp
        · by_cases e2 : j < k
          · simp [e, e2, show j < k + 1 by omega]
          · simp [e, e2, show ¬ j < k + 1 by omega]
    · go_wp2
      go_ret
      exact ⟨rfl, hR.congr (fun i hi => by rw [if_pos (by omega)]), hB, hs⟩
end Go.Proofs.Qxb6623513a
