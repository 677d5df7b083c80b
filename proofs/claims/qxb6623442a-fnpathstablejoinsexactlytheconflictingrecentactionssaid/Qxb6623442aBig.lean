/- The law where a list is too long: it returns true at once. -/
import Derived.Test.Qxb6623442aLawHead
namespace Go.Proofs.Qxb6623442a
open Go.RowKit
set_option linter.unusedVariables false

set_option maxHeartbeats 2000000 in
set_option maxRecDepth 100000 in
theorem law_big0 (w : World) (a0 a1 a2 a3 a4 a5 a6 : Option Addr) (n0 n1 n2 n3 n4 n5 n6 c0 c1 c2 c3 c4 c5 c6 : Nat) (A0 A3 A4 : Nat → Option Addr) (L0 L3 L4 C0 C3 C4 : Nat → Nat) (Z0 Z3 Z4 : Nat → Nat → Int) (f1 f2 f5 f6 : Nat → Int) (tx kind : Int)
    (h : LIn w a0 a1 a2 a3 a4 a5 a6 n0 n1 n2 n3 n4 n5 n6 A0 A3 A4 L0 L3 L4 C0 C3 C4 Z0 Z3 Z4 f1 f2 f5 f6)  (b0 : 131072 < n0) :
    Calls Try.prog 3 #[.slice a0 n0 c0, .slice a1 n1 c1, .slice a2 n2 c2, .slice a3 n3 c3, .slice a4 n4 c4, .slice a5 n5 c5, .slice a6 n6 c6, .int .i64 tx, .int .u8 kind] w (LPost w) := by
  have HI := hid h
  clear h
  have d0 : decide ((131072 : Int) < (n0 : Int)) = true := decide_eq_true (by omega)
  go_enter Try.func3, Try.ntmps3
  go_wp2_with fail
  refine (bytes_any (fun b => b < w.heap.size) a0 a1 a2 a3 a4 a5 a6 n0 n1 n2 n3 n4 n5 n6 c0 c1 c2 c3 c4 c5 c6 A0 A3 A4 L0 L3 L4 C0 C3 C4 Z0 Z3 Z4 tx kind w HI.out.h0 HI.out.h3 HI.out.h4).mono ?_
  rintro e w' ⟨bo, rfl, hw'⟩
  subst hw'
  cases bo
  all_goals
    go_wp2
    go_ret
    exact LPost.same _

set_option maxHeartbeats 2000000 in
set_option maxRecDepth 100000 in
theorem law_big1 (w : World) (a0 a1 a2 a3 a4 a5 a6 : Option Addr) (n0 n1 n2 n3 n4 n5 n6 c0 c1 c2 c3 c4 c5 c6 : Nat) (A0 A3 A4 : Nat → Option Addr) (L0 L3 L4 C0 C3 C4 : Nat → Nat) (Z0 Z3 Z4 : Nat → Nat → Int) (f1 f2 f5 f6 : Nat → Int) (tx kind : Int)
    (h : LIn w a0 a1 a2 a3 a4 a5 a6 n0 n1 n2 n3 n4 n5 n6 A0 A3 A4 L0 L3 L4 C0 C3 C4 Z0 Z3 Z4 f1 f2 f5 f6) (b0 : n0 ≤ 131072) (b1 : 131072 < n1) :
    Calls Try.prog 3 #[.slice a0 n0 c0, .slice a1 n1 c1, .slice a2 n2 c2, .slice a3 n3 c3, .slice a4 n4 c4, .slice a5 n5 c5, .slice a6 n6 c6, .int .i64 tx, .int .u8 kind] w (LPost w) := by
  have HI := hid h
  clear h
  have d0 : decide ((131072 : Int) < (n0 : Int)) = false := decide_eq_false (by omega)
  have d1 : decide ((131072 : Int) < (n1 : Int)) = true := decide_eq_true (by omega)
  go_enter Try.func3, Try.ntmps3
  go_wp2_with fail
  refine (bytes_any (fun b => b < w.heap.size) a0 a1 a2 a3 a4 a5 a6 n0 n1 n2 n3 n4 n5 n6 c0 c1 c2 c3 c4 c5 c6 A0 A3 A4 L0 L3 L4 C0 C3 C4 Z0 Z3 Z4 tx kind w HI.out.h0 HI.out.h3 HI.out.h4).mono ?_
  rintro e w' ⟨bo, rfl, hw'⟩
  subst hw'
  cases bo
  all_goals
    go_wp2
    go_ret
    exact LPost.same _

set_option maxHeartbeats 2000000 in
set_option maxRecDepth 100000 in
theorem law_big2 (w : World) (a0 a1 a2 a3 a4 a5 a6 : Option Addr) (n0 n1 n2 n3 n4 n5 n6 c0 c1 c2 c3 c4 c5 c6 : Nat) (A0 A3 A4 : Nat → Option Addr) (L0 L3 L4 C0 C3 C4 : Nat → Nat) (Z0 Z3 Z4 : Nat → Nat → Int) (f1 f2 f5 f6 : Nat → Int) (tx kind : Int)
    (h : LIn w a0 a1 a2 a3 a4 a5 a6 n0 n1 n2 n3 n4 n5 n6 A0 A3 A4 L0 L3 L4 C0 C3 C4 Z0 Z3 Z4 f1 f2 f5 f6) (b0 : n0 ≤ 131072) (b1 : n1 ≤ 131072) (b2 : 131072 < n2) :
    Calls Try.prog 3 #[.slice a0 n0 c0, .slice a1 n1 c1, .slice a2 n2 c2, .slice a3 n3 c3, .slice a4 n4 c4, .slice a5 n5 c5, .slice a6 n6 c6, .int .i64 tx, .int .u8 kind] w (LPost w) := by
  have HI := hid h
  clear h
  have d0 : decide ((131072 : Int) < (n0 : Int)) = false := decide_eq_false (by omega)
  have d1 : decide ((131072 : Int) < (n1 : Int)) = false := decide_eq_false (by omega)
  have d2 : decide ((131072 : Int) < (n2 : Int)) = true := decide_eq_true (by omega)
  go_enter Try.func3, Try.ntmps3
  go_wp2_with fail
  refine (bytes_any (fun b => b < w.heap.size) a0 a1 a2 a3 a4 a5 a6 n0 n1 n2 n3 n4 n5 n6 c0 c1 c2 c3 c4 c5 c6 A0 A3 A4 L0 L3 L4 C0 C3 C4 Z0 Z3 Z4 tx kind w HI.out.h0 HI.out.h3 HI.out.h4).mono ?_
  rintro e w' ⟨bo, rfl, hw'⟩
  subst hw'
  cases bo
  all_goals
    go_wp2
    go_ret
    exact LPost.same _

set_option maxHeartbeats 2000000 in
set_option maxRecDepth 100000 in
theorem law_big3 (w : World) (a0 a1 a2 a3 a4 a5 a6 : Option Addr) (n0 n1 n2 n3 n4 n5 n6 c0 c1 c2 c3 c4 c5 c6 : Nat) (A0 A3 A4 : Nat → Option Addr) (L0 L3 L4 C0 C3 C4 : Nat → Nat) (Z0 Z3 Z4 : Nat → Nat → Int) (f1 f2 f5 f6 : Nat → Int) (tx kind : Int)
    (h : LIn w a0 a1 a2 a3 a4 a5 a6 n0 n1 n2 n3 n4 n5 n6 A0 A3 A4 L0 L3 L4 C0 C3 C4 Z0 Z3 Z4 f1 f2 f5 f6) (b0 : n0 ≤ 131072) (b1 : n1 ≤ 131072) (b2 : n2 ≤ 131072) (b3 : 131072 < n3) :
    Calls Try.prog 3 #[.slice a0 n0 c0, .slice a1 n1 c1, .slice a2 n2 c2, .slice a3 n3 c3, .slice a4 n4 c4, .slice a5 n5 c5, .slice a6 n6 c6, .int .i64 tx, .int .u8 kind] w (LPost w) := by
  have HI := hid h
  clear h
  have d0 : decide ((131072 : Int) < (n0 : Int)) = false := decide_eq_false (by omega)
  have d1 : decide ((131072 : Int) < (n1 : Int)) = false := decide_eq_false (by omega)
  have d2 : decide ((131072 : Int) < (n2 : Int)) = false := decide_eq_false (by omega)
  have d3 : decide ((131072 : Int) < (n3 : Int)) = true := decide_eq_true (by omega)
  go_enter Try.func3, Try.ntmps3
  go_wp2_with fail
  refine (bytes_any (fun b => b < w.heap.size) a0 a1 a2 a3 a4 a5 a6 n0 n1 n2 n3 n4 n5 n6 c0 c1 c2 c3 c4 c5 c6 A0 A3 A4 L0 L3 L4 C0 C3 C4 Z0 Z3 Z4 tx kind w HI.out.h0 HI.out.h3 HI.out.h4).mono ?_
  rintro e w' ⟨bo, rfl, hw'⟩
  subst hw'
  cases bo
  all_goals
    go_wp2
    go_ret
    exact LPost.same _

set_option maxHeartbeats 2000000 in
set_option maxRecDepth 100000 in
theorem law_big4 (w : World) (a0 a1 a2 a3 a4 a5 a6 : Option Addr) (n0 n1 n2 n3 n4 n5 n6 c0 c1 c2 c3 c4 c5 c6 : Nat) (A0 A3 A4 : Nat → Option Addr) (L0 L3 L4 C0 C3 C4 : Nat → Nat) (Z0 Z3 Z4 : Nat → Nat → Int) (f1 f2 f5 f6 : Nat → Int) (tx kind : Int)
    (h : LIn w a0 a1 a2 a3 a4 a5 a6 n0 n1 n2 n3 n4 n5 n6 A0 A3 A4 L0 L3 L4 C0 C3 C4 Z0 Z3 Z4 f1 f2 f5 f6) (b0 : n0 ≤ 131072) (b1 : n1 ≤ 131072) (b2 : n2 ≤ 131072) (b3 : n3 ≤ 131072) (b4 : 131072 < n4) :
    Calls Try.prog 3 #[.slice a0 n0 c0, .slice a1 n1 c1, .slice a2 n2 c2, .slice a3 n3 c3, .slice a4 n4 c4, .slice a5 n5 c5, .slice a6 n6 c6, .int .i64 tx, .int .u8 kind] w (LPost w) := by
  have HI := hid h
  clear h
  have d0 : decide ((131072 : Int) < (n0 : Int)) = false := decide_eq_false (by omega)
  have d1 : decide ((131072 : Int) < (n1 : Int)) = false := decide_eq_false (by omega)
  have d2 : decide ((131072 : Int) < (n2 : Int)) = false := decide_eq_false (by omega)
  have d3 : decide ((131072 : Int) < (n3 : Int)) = false := decide_eq_false (by omega)
  have d4 : decide ((131072 : Int) < (n4 : Int)) = true := decide_eq_true (by omega)
  go_enter Try.func3, Try.ntmps3
  go_wp2_with fail
  refine (bytes_any (fun b => b < w.heap.size) a0 a1 a2 a3 a4 a5 a6 n0 n1 n2 n3 n4 n5 n6 c0 c1 c2 c3 c4 c5 c6 A0 A3 A4 L0 L3 L4 C0 C3 C4 Z0 Z3 Z4 tx kind w HI.out.h0 HI.out.h3 HI.out.h4).mono ?_
  rintro e w' ⟨bo, rfl, hw'⟩
  subst hw'
  cases bo
  all_goals
    go_wp2
    go_ret
    exact LPost.same _

set_option maxHeartbeats 2000000 in
set_option maxRecDepth 100000 in
theorem law_big5 (w : World) (a0 a1 a2 a3 a4 a5 a6 : Option Addr) (n0 n1 n2 n3 n4 n5 n6 c0 c1 c2 c3 c4 c5 c6 : Nat) (A0 A3 A4 : Nat → Option Addr) (L0 L3 L4 C0 C3 C4 : Nat → Nat) (Z0 Z3 Z4 : Nat → Nat → Int) (f1 f2 f5 f6 : Nat → Int) (tx kind : Int)
    (h : LIn w a0 a1 a2 a3 a4 a5 a6 n0 n1 n2 n3 n4 n5 n6 A0 A3 A4 L0 L3 L4 C0 C3 C4 Z0 Z3 Z4 f1 f2 f5 f6) (b0 : n0 ≤ 131072) (b1 : n1 ≤ 131072) (b2 : n2 ≤ 131072) (b3 : n3 ≤ 131072) (b4 : n4 ≤ 131072) (b5 : 131072 < n5) :
    Calls Try.prog 3 #[.slice a0 n0 c0, .slice a1 n1 c1, .slice a2 n2 c2, .slice a3 n3 c3, .slice a4 n4 c4, .slice a5 n5 c5, .slice a6 n6 c6, .int .i64 tx, .int .u8 kind] w (LPost w) := by
  have HI := hid h
  clear h
  have d0 : decide ((131072 : Int) < (n0 : Int)) = false := decide_eq_false (by omega)
  have d1 : decide ((131072 : Int) < (n1 : Int)) = false := decide_eq_false (by omega)
  have d2 : decide ((131072 : Int) < (n2 : Int)) = false := decide_eq_false (by omega)
  have d3 : decide ((131072 : Int) < (n3 : Int)) = false := decide_eq_false (by omega)
  have d4 : decide ((131072 : Int) < (n4 : Int)) = false := decide_eq_false (by omega)
  have d5 : decide ((131072 : Int) < (n5 : Int)) = true := decide_eq_true (by omega)
  go_enter Try.func3, Try.ntmps3
  go_wp2_with fail
  refine (bytes_any (fun b => b < w.heap.size) a0 a1 a2 a3 a4 a5 a6 n0 n1 n2 n3 n4 n5 n6 c0 c1 c2 c3 c4 c5 c6 A0 A3 A4 L0 L3 L4 C0 C3 C4 Z0 Z3 Z4 tx kind w HI.out.h0 HI.out.h3 HI.out.h4).mono ?_
  rintro e w' ⟨bo, rfl, hw'⟩
  subst hw'
  cases bo
  all_goals
    go_wp2
    go_ret
    exact LPost.same _

set_option maxHeartbeats 2000000 in
set_option maxRecDepth 100000 in
theorem law_big6 (w : World) (a0 a1 a2 a3 a4 a5 a6 : Option Addr) (n0 n1 n2 n3 n4 n5 n6 c0 c1 c2 c3 c4 c5 c6 : Nat) (A0 A3 A4 : Nat → Option Addr) (L0 L3 L4 C0 C3 C4 : Nat → Nat) (Z0 Z3 Z4 : Nat → Nat → Int) (f1 f2 f5 f6 : Nat → Int) (tx kind : Int)
    (h : LIn w a0 a1 a2 a3 a4 a5 a6 n0 n1 n2 n3 n4 n5 n6 A0 A3 A4 L0 L3 L4 C0 C3 C4 Z0 Z3 Z4 f1 f2 f5 f6) (b0 : n0 ≤ 131072) (b1 : n1 ≤ 131072) (b2 : n2 ≤ 131072) (b3 : n3 ≤ 131072) (b4 : n4 ≤ 131072) (b5 : n5 ≤ 131072) (b6 : 131072 < n6) :
    Calls Try.prog 3 #[.slice a0 n0 c0, .slice a1 n1 c1, .slice a2 n2 c2, .slice a3 n3 c3, .slice a4 n4 c4, .slice a5 n5 c5, .slice a6 n6 c6, .int .i64 tx, .int .u8 kind] w (LPost w) := by
  have HI := hid h
  clear h
  have d0 : decide ((131072 : Int) < (n0 : Int)) = false := decide_eq_false (by omega)
  have d1 : decide ((131072 : Int) < (n1 : Int)) = false := decide_eq_false (by omega)
  have d2 : decide ((131072 : Int) < (n2 : Int)) = false := decide_eq_false (by omega)
  have d3 : decide ((131072 : Int) < (n3 : Int)) = false := decide_eq_false (by omega)
  have d4 : decide ((131072 : Int) < (n4 : Int)) = false := decide_eq_false (by omega)
  have d5 : decide ((131072 : Int) < (n5 : Int)) = false := decide_eq_false (by omega)
  have d6 : decide ((131072 : Int) < (n6 : Int)) = true := decide_eq_true (by omega)
  go_enter Try.func3, Try.ntmps3
  go_wp2_with fail
  refine (bytes_any (fun b => b < w.heap.size) a0 a1 a2 a3 a4 a5 a6 n0 n1 n2 n3 n4 n5 n6 c0 c1 c2 c3 c4 c5 c6 A0 A3 A4 L0 L3 L4 C0 C3 C4 Z0 Z3 Z4 tx kind w HI.out.h0 HI.out.h3 HI.out.h4).mono ?_
  rintro e w' ⟨bo, rfl, hw'⟩
  subst hw'
  cases bo
  all_goals
    go_wp2
    go_ret
    exact LPost.same _

end Go.Proofs.Qxb6623442a
