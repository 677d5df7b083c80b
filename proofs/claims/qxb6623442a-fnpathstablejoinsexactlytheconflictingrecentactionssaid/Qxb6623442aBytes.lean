/- zzBytes. -/
import Derived.Test.Qxb6623442aSmall2
namespace Go.Proofs.Qxb6623442a
open Go.RowKit
set_option linter.unusedVariables false

def BoolPost (w : World) (e : Ending) (w' : World) : Prop := ∃ bo : Bool, e = .returned (.bool bo) ∧ w' = w
theorem BoolPost.mk (w : World) (bo : Bool) : BoolPost w (.returned (.bool bo)) w := ⟨bo, rfl, rfl⟩

set_option maxHeartbeats 2000000 in
set_option maxRecDepth 100000 in
theorem bytes_any (Fr : Nat → Prop) (a0 a1 a2 a3 a4 a5 a6 : Option Addr) (n0 n1 n2 n3 n4 n5 n6 c0 c1 c2 c3 c4 c5 c6 : Nat) (A0 A3 A4 : Nat → Option Addr) (L0 L3 L4 C0 C3 C4 : Nat → Nat) (Z0 Z3 Z4 : Nat → Nat → Int) (tx kind : Int) (w : World)
    (h0 : RowsF Fr w a0 n0 A0 L0 C0 Z0) (h3 : RowsF Fr w a3 n3 A3 L3 C3 Z3) (h4 : RowsF Fr w a4 n4 A4 L4 C4 Z4) :
    Calls Try.prog 4 #[.slice a0 n0 c0, .slice a1 n1 c1, .slice a2 n2 c2, .slice a3 n3 c3, .slice a4 n4 c4, .slice a5 n5 c5, .slice a6 n6 c6, .int .i64 tx, .int .u8 kind] w (BoolPost w) := by
  go_enter Try.func4, Try.ntmps4
  go_wp2
  all_goals try (go_ret; exact BoolPost.mk _ _)
  go_loopg [19, 20] n0 (fun g s19 s20 wr => wr = w ∧ ∃ (k : Nat) (z : Int), k ≤ n0 ∧ g = n0 - k ∧ s20 = .int .i64 k ∧ s19 = .int .i64 z ∧ 0 ≤ z ∧ z ≤ 1048576)
  case atStart => exact ⟨rfl, 0, n0, Nat.zero_le _, rfl, rfl, rfl, by omega, by omega⟩
  case round =>
    obtain ⟨rfl, k, z, hk, rfl, rfl, rfl, hz0, hz1⟩ := hrel
    by_cases hlt : k < n0
    · obtain ⟨b, off, rfl, _, hc⟩ := h0 (by omega)
      have g1 := (hc k hlt).1
      clear hc h0 h3 h4
      by_cases t1 : L0 k ≤ 1048576
      · by_cases t2 : z + (L0 k : Int) ≤ 1048576
        · go_wp2
          go_roundg (n0 - (k + 1))
          case measure => go_light; omega
          case rel => go_light; exact ⟨rfl, k + 1, _, by omega, rfl, by go_num, rfl, by omega, t2⟩
        · go_wp2
          go_ret
          exact BoolPost.mk _ _
      · go_wp2
        go_ret
        exact BoolPost.mk _ _
    · clear h0
      go_wp2
      all_goals try (go_ret; exact BoolPost.mk _ _)
      go_loopg [19, 21] n3 (fun g s19 s20 wx => wx = wr ∧ ∃ (k : Nat) (z : Int), k ≤ n3 ∧ g = n3 - k ∧ s20 = .int .i64 k ∧ s19 = .int .i64 z ∧ 0 ≤ z ∧ z ≤ 1048576)
      case atStart => exact ⟨rfl, 0, _, Nat.zero_le _, rfl, rfl, rfl, by omega, by omega⟩
      case round =>
        clear hz0 hz1
        obtain ⟨rfl, k, z, hk, rfl, rfl, rfl, hz0, hz1⟩ := hrel
        by_cases hlt : k < n3
        · obtain ⟨b, off, rfl, _, hc⟩ := h3 (by omega)
          have g1 := (hc k hlt).1
          clear hc h3
          by_cases t1 : L3 k ≤ 1048576
          · by_cases t2 : z + (L3 k : Int) ≤ 1048576
            · go_wp2
              go_roundg (n3 - (k + 1))
              case measure => go_light; omega
              case rel => go_light; exact ⟨rfl, k + 1, _, by omega, rfl, by go_num, rfl, by omega, t2⟩
            · go_wp2
              go_ret
              exact BoolPost.mk _ _
          · go_wp2
            go_ret
            exact BoolPost.mk _ _
        · clear h3
          go_wp2
          all_goals try (go_ret; exact BoolPost.mk _ _)
          go_loopg [19, 22] n4 (fun g s19 s20 wx => wx = wr ∧ ∃ (k : Nat) (z : Int), k ≤ n4 ∧ g = n4 - k ∧ s20 = .int .i64 k ∧ s19 = .int .i64 z ∧ 0 ≤ z ∧ z ≤ 1048576)
          case atStart => exact ⟨rfl, 0, _, Nat.zero_le _, rfl, rfl, rfl, by omega, by omega⟩
          case round =>
            clear hz0 hz1
            obtain ⟨rfl, k, z, hk, rfl, rfl, rfl, hz0, hz1⟩ := hrel
            by_cases hlt : k < n4
            · obtain ⟨b, off, rfl, _, hc⟩ := h4 (by omega)
              have g1 := (hc k hlt).1
              clear hc h4
              by_cases t1 : L4 k ≤ 1048576
              · by_cases t2 : z + (L4 k : Int) ≤ 1048576
                · go_wp2
                  go_roundg (n4 - (k + 1))
                  case measure => go_light; omega
                  case rel => go_light; exact ⟨rfl, k + 1, _, by omega, rfl, by go_num, rfl, by omega, t2⟩
                · go_wp2
                  go_ret
                  exact BoolPost.mk _ _
              · go_wp2
                go_ret
                exact BoolPost.mk _ _
            · clear h4
              go_wp2
              all_goals try (go_ret; exact BoolPost.mk _ _)
end Go.Proofs.Qxb6623442a
