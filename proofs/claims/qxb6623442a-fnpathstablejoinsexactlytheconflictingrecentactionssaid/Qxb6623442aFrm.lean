/- Frames, and slices of numbers as they read. -/
import Derived.Test.Qxb6623442aRows
import Derived.WalkKit
import Derived.WalkLawsBesides
import Derived.Deep.LoopGhost
import Derived.Deep.OwnRows
import Derived.Deep.Light
import Derived.Below
import Derived.ArgAppend
import Derived.Deep.AppendLies
import Derived.Deep.QuietTactic
import Derived.BigQuiet
import Derived.BigRegion
namespace Go.Proofs.Qxb6623442a
open Go.RowKit
set_option linter.unusedVariables false

/-- Every block of w for which Fr holds is in w' as it was. -/
structure Fram (Fr : Nat → Prop) (w w' : World) : Prop where
  os : w'.os = w.os
  tape : w'.tape = w.tape
  output : w'.output = w.output
  size : w.heap.size ≤ w'.heap.size
  block : ∀ k, k < w.heap.size → Fr k → w'.heap[k]? = w.heap[k]?

section
variable {Fr Fr' : Nat → Prop} {w w' w'' : World}
theorem Fram.refl (Fr : Nat → Prop) (w : World) : Fram Fr w w := ⟨rfl, rfl, rfl, Nat.le_refl _, fun _ _ _ => rfl⟩
theorem Fram.trans (h : Fram Fr w w') (k : Fram Fr w' w'') : Fram Fr w w'' :=
  ⟨k.os.trans h.os, k.tape.trans h.tape, k.output.trans h.output, Nat.le_trans h.size k.size, fun i hi hf => (k.block i (Nat.lt_of_lt_of_le hi h.size) hf).trans (h.block i hi hf)⟩
theorem Fram.weak (h : Fram Fr w w') (e : ∀ k, k < w.heap.size → Fr' k → Fr k) : Fram Fr' w w' := ⟨h.os, h.tape, h.output, h.size, fun k hk hf => h.block k hk (e k hk hf)⟩
theorem Fram.drew (h : Fram Fr w w') : Fram Fr w w'.drew := ⟨h.os, h.tape, h.output, h.size, h.block⟩
theorem Fram.drewN (h : Fram Fr w w') (q : Nat) : Fram Fr w (w'.drewN q) := ⟨h.os, h.tape, h.output, h.size, h.block⟩
theorem Fram.alloc (h : Fram Fr w w') (o : Obj) : Fram Fr w (w'.alloc o) :=
  h.trans ⟨rfl, rfl, rfl, by simp, fun k hk _ => Below.heap_alloc _ _ _ hk⟩
theorem Fram.setCell (h : Fram Fr w w') {a : Addr} (ha : ¬ Fr a.block) (v : Value) : Fram Fr w (w'.setCell a v) :=
  h.trans ⟨rfl, rfl, rfl, by simp, fun k hk hf => Below.heap_setCell _ _ _ _ (fun e => ha (e ▸ hf))⟩
theorem Fram.grown (h : Fram Fr w w') {row : Option Nat} (hg : w'.grownBy w'' row) (hr : ∀ k, row = some k → ¬ Fr k) : Fram Fr w w'' :=
  h.trans ⟨hg.os, hg.tape, hg.output, hg.size, fun k hk hf => hg.block k hk (fun e => hr k e.symm hf)⟩
theorem Fram.of_below {B : Nat} (h : Below B w w') (hB : ∀ k, k < w.heap.size → Fr k → k < B) : Fram Fr w w' := ⟨h.os, h.tape, h.output, h.size, fun k hk hf => h.block k (hB k hk hf)⟩
theorem Fram.below {B : Nat} (h : Fram Fr w w') (hB : B ≤ w.heap.size) (hf : ∀ k, k < B → Fr k) : Below B w w' := ⟨h.os, h.tape, h.output, h.size, fun k hk => h.block k (by omega) (hf k hk)⟩
theorem Fram.cell (h : Fram Fr w w') {b o : Nat} {v : Value} (hc : w.cell? ⟨b, o, none⟩ = some v) (hf : Fr b) : w'.cell? ⟨b, o, none⟩ = some v := by
  rw [World.cell?_of_block (w := w) (h.block b (World.block_lt_of_cell? _ _ hc) hf)]; exact hc
theorem Fram.frozen (h : Fram Fr w w') {b o : Nat} (hb : b < w.heap.size) (hf : Fr b) : w'.frozen? ⟨b, o, none⟩ = w.frozen? ⟨b, o, none⟩ := World.frozen?_of_block (w := w) (h.block b hb hf)
theorem Fram.row (h : Fram Fr w w') {b n : Nat} {t : TypeId} {f : Nat → Value} (hr : w.rowIs b t n f) (hf : Fr b) : w'.rowIs b t n f := hr.of_block (h.block b hr.lt hf)

/-- The slice value with address a and length n reads as the numbers f. -/
def SlF (Fr : Nat → Prop) (w : World) (a : Option Addr) (n : Nat) (f : Nat → Int) : Prop :=
  0 < n → ∃ b off, a = some ⟨b, off, none⟩ ∧ Fr b ∧ ∀ i, i < n → w.cell? ⟨b, off + i, none⟩ = some (.int .i64 (f i))

variable {a : Option Addr} {n : Nat} {f g : Nat → Int}
theorem SlF.fram (h : SlF Fr w a n f) (k : Fram Fr w w') : SlF Fr w' a n f := by
  intro hn
  obtain ⟨b, off, ha, hf, hc⟩ := h hn
  exact ⟨b, off, ha, hf, fun i hi => k.cell (hc i hi) hf⟩
theorem SlF.lt (h : SlF Fr w a n f) (hn : 0 < n) {b off : Nat} (ha : a = some ⟨b, off, none⟩) : b < w.heap.size := by
  obtain ⟨b', off', ha', _, hc⟩ := h hn
  rw [ha] at ha'
  cases ha'
  exact World.block_lt_of_cell? _ _ (hc 0 hn)
theorem SlF.weak (h : SlF Fr w a n f) (e : ∀ k, k < w.heap.size → Fr k → Fr' k) : SlF Fr' w a n f := by
  intro hn
  obtain ⟨b, off, ha, hf, hc⟩ := h hn
  exact ⟨b, off, ha, e b (World.block_lt_of_cell? _ _ (hc 0 hn)) hf, hc⟩
theorem SlF.congr (h : SlF Fr w a n f) (e : ∀ i, i < n → f i = g i) : SlF Fr w a n g := by
  intro hn
  obtain ⟨b, off, ha, hf, hc⟩ := h hn
  exact ⟨b, off, ha, hf, fun i hi => by rw [hc i hi, e i hi]⟩
theorem SlF.of_row {b : Nat} (h : w.rowIs b 3 n (fun i => .int .i64 (f i))) (hf : Fr b) : SlF Fr w (some ⟨b, 0, none⟩) n f := fun _ => ⟨b, 0, rfl, hf, fun i hi => by rw [Nat.zero_add]; exact h.cell hi⟩
theorem SlF.zero (Fr : Nat → Prop) (w : World) (a : Option Addr) (f : Nat → Int) : SlF Fr w a 0 f := fun h => absurd h (Nat.lt_irrefl _)

/-- The slice of slices reads as the rows. -/
def RowsF (Fr : Nat → Prop) (w : World) (ga : Option Addr) (G : Nat) (A : Nat → Option Addr) (L C : Nat → Nat) (Z : Nat → Nat → Int) : Prop :=
  0 < G → ∃ gb go, ga = some ⟨gb, go, none⟩ ∧ Fr gb ∧ ∀ r, r < G → w.cell? ⟨gb, go + r, none⟩ = some (.slice (A r) (L r) (C r)) ∧ SlF Fr w (A r) (L r) (Z r)
variable {ga : Option Addr} {G : Nat} {A : Nat → Option Addr} {L C : Nat → Nat} {Z : Nat → Nat → Int}
theorem RowsF.fram (h : RowsF Fr w ga G A L C Z) (k : Fram Fr w w') : RowsF Fr w' ga G A L C Z := by
  intro hG
  obtain ⟨gb, go, hga, hf, hc⟩ := h hG
  exact ⟨gb, go, hga, hf, fun r hr => ⟨k.cell (hc r hr).1 hf, (hc r hr).2.fram k⟩⟩
theorem RowsF.weak (h : RowsF Fr w ga G A L C Z) (e : ∀ k, k < w.heap.size → Fr k → Fr' k) : RowsF Fr' w ga G A L C Z := by
  intro hG
  obtain ⟨gb, go, hga, hf, hc⟩ := h hG
  exact ⟨gb, go, hga, e gb (World.block_lt_of_cell? _ _ (hc 0 hG).1) hf, fun r hr => ⟨(hc r hr).1, (hc r hr).2.weak e⟩⟩
theorem RowsF.row (h : RowsF Fr w ga G A L C Z) {r : Nat} (hr : r < G) : SlF Fr w (A r) (L r) (Z r) := by
  obtain ⟨gb, go, hga, hf, hc⟩ := h (by omega)
  exact (hc r hr).2
end
end Go.Proofs.Qxb6623442a
