/-
  No cell of these rows narrows 'for every input' (looked for: loops, veiled, ifaces, maps, wideKeys, modest, calm, conditions, laid).
  DERIVED. THE GIVEN ROWS OF THIS SEAT. 1 by the template 'for every input the law returns true; each argument reads behind the call as it read before'; 0 by the template 'total and deterministic' (their statements: Qxb6623442aTotals.lean).
  GIVEN WITH THE SEED: the statements are not yours to turn. If you find one false, say at which input.
  Laid BY PROGRAM, IN A SANDBOX (cutbox-rows.mjs): the forced cells as the released guide's own fill.sh prints them over the translation 9a528a80c3c662be… (all of the seat's roots in one cut). By AI agents, Wed Nov 11 2026. No macro, syntax, notation, axiom, sorry.
-/
import Derived.Test.Qxb6623442aChecked
import GoSem.Claim
import GoSem.ClaimJoined
import GoSem.ClaimMapViews
import Derived.JoinedTies
import Derived.KernelRfl
namespace Go.Proofs.Qxb6623442a
/- THE CELL 'sum', in the pinned program and in every row, IS THE sha256 OF THE DUMP (.gsa) THAT Qxb6623442aProg.lean LOADS. Nothing in Lean hashes anything: it is a label: what it is worth is what the hold of that sum in a sandbox is worth. -/
noncomputable def Try.pinned : Pinned := { name := "qxb6623442a", sum := "9a528a80c3c662be91c944880f99bf828c37315b9e00953b1dd3edf26734fbd3", checked := Try.checked }
namespace Rows
def none {H : Type} : Left H := { results := [], args := [] }

/-- 'zzlaws_internal_precedence_b1.FnPathsTableJoinsExactlyTheConflictingRecentActions': WHATEVER THE INPUT: true; the input reads as it did. -/
def fnPathsTableJoinsExactlyTheConflictingRecentActionsSpec : ChangeSpec := { name := "fnPathsTableJoinsExactlyTheConflictingRecentActions", fn := fun _ => fun
  | [d1, d2, d3, d4, d5, d6, d7, d8, d9] => { results := [.lit (.bool true)], args := [d1, d2, d3, d4, d5, d6, d7, d8, d9] }
  | _ => none }
def fnPathsTableJoinsExactlyTheConflictingRecentActionsRow : OpenClaim := { program := "qxb6623442a", sum := "9a528a80c3c662be91c944880f99bf828c37315b9e00953b1dd3edf26734fbd3", func := "example.com/interlace/interlace/zzlaws_internal_precedence_b1.FnPathsTableJoinsExactlyTheConflictingRecentActions", spec := "fnPathsTableJoinsExactlyTheConflictingRecentActions", apart := false }
def FnPathsTableJoinsExactlyTheConflictingRecentActionsSaid : Prop := fnPathsTableJoinsExactlyTheConflictingRecentActionsRow.holds Try.pinned (OpenSpec.ofChange fnPathsTableJoinsExactlyTheConflictingRecentActionsSpec)

/-- ITS FALSE NEIGHBOUR: 'it returns false'. Refute it at one input. -/
def fnPathsTableJoinsExactlyTheConflictingRecentActionsWrong : ChangeSpec := { name := "fnPathsTableJoinsExactlyTheConflictingRecentActions", fn := fun _ => fun
  | [d1, d2, d3, d4, d5, d6, d7, d8, d9] => { results := [.lit (.bool false)], args := [d1, d2, d3, d4, d5, d6, d7, d8, d9] }
  | _ => none }
def FnPathsTableJoinsExactlyTheConflictingRecentActionsWrongFalsely : Prop := fnPathsTableJoinsExactlyTheConflictingRecentActionsRow.holds Try.pinned (OpenSpec.ofChange fnPathsTableJoinsExactlyTheConflictingRecentActionsWrong)

end Rows
end Go.Proofs.Qxb6623442a
