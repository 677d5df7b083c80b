/- The law's own walk. -/
import Derived.Test.Qxb6623442aCarry
namespace Go.Proofs.Qxb6623442a
open Go.RowKit
set_option linter.unusedVariables false

/-- The law's arguments, as they read. -/
structure LIn (w : World) (a0 a1 a2 a3 a4 a5 a6 : Option Addr) (n0 n1 n2 n3 n4 n5 n6 : Nat) (A0 A3 A4 : Nat → Option Addr) (L0 L3 L4 C0 C3 C4 : Nat → Nat) (Z0 Z3 Z4 : Nat → Nat → Int) (f1 f2 f5 f6 : Nat → Int) : Prop where
  h0 : RowsF (fun b => b < w.heap.size) w a0 n0 A0 L0 C0 Z0
  h3 : RowsF (fun b => b < w.heap.size) w a3 n3 A3 L3 C3 Z3
  h4 : RowsF (fun b => b < w.heap.size) w a4 n4 A4 L4 C4 Z4
  h1 : SlF (fun b => b < w.heap.size) w a1 n1 f1
  h2 : SlF (fun b => b < w.heap.size) w a2 n2 f2
  h5 : SlF (fun b => b < w.heap.size) w a5 n5 f5
  h6 : SlF (fun b => b < w.heap.size) w a6 n6 f6
  z0 : a0 = none → n0 = 0
  z1 : a1 = none → n1 = 0
  z2 : a2 = none → n2 = 0
  z3 : a3 = none → n3 = 0
  z4 : a4 = none → n4 = 0
  z5 : a5 = none → n5 = 0
  z6 : a6 = none → n6 = 0
  y0 : ∀ r, r < n0 → A0 r = none → L0 r = 0
  y3 : ∀ r, r < n3 → A3 r = none → L3 r = 0
  y4 : ∀ r, r < n4 → A4 r = none → L4 r = 0

def LPost (w : World) (e : Ending) (w' : World) : Prop := e = .returned (.bool true) ∧ Below w.heap.size w w'
theorem LPost.same (w : World) : LPost w (.returned (.bool true)) w := ⟨rfl, Below.refl _ _⟩

/-- What the premise says of one key. -/
def KD (n0 : Nat) (L3 L4 : Nat → Nat) (Z3 Z4 : Nat → Nat → Int) (f5 : Nat → Int) (r : Nat) : Prop :=
  (∀ j, j < L3 r → 0 ≤ Z3 r j ∧ Z3 r j < (n0 : Int)) ∧ (∀ j, j < L4 r → 0 ≤ Z4 r j ∧ Z4 r j < (n0 : Int)) ∧ 0 ≤ f5 r ∧ f5 r ≤ (L4 r : Int)
theorem below_drewN {B : Nat} {a w : World} (h : Below B a w) (q : Nat) : Below B a (w.drewN q) := ⟨h.os, h.tape, h.output, h.size, h.block⟩

theorem LIn.drewN {w : World} {a0 a1 a2 a3 a4 a5 a6 : Option Addr} {n0 n1 n2 n3 n4 n5 n6 : Nat} {A0 A3 A4 : Nat → Option Addr} {L0 L3 L4 C0 C3 C4 : Nat → Nat} {Z0 Z3 Z4 : Nat → Nat → Int} {f1 f2 f5 f6 : Nat → Int} (h : LIn w a0 a1 a2 a3 a4 a5 a6 n0 n1 n2 n3 n4 n5 n6 A0 A3 A4 L0 L3 L4 C0 C3 C4 Z0 Z3 Z4 f1 f2 f5 f6) (q : Nat) :
    LIn (w.drewN q) a0 a1 a2 a3 a4 a5 a6 n0 n1 n2 n3 n4 n5 n6 A0 A3 A4 L0 L3 L4 C0 C3 C4 Z0 Z3 Z4 f1 f2 f5 f6 :=
  ⟨h.h0, h.h3, h.h4, h.h1, h.h2, h.h5, h.h6, h.z0, h.z1, h.z2, h.z3, h.z4, h.z5, h.z6, h.y0, h.y3, h.y4⟩

end Go.Proofs.Qxb6623442a
