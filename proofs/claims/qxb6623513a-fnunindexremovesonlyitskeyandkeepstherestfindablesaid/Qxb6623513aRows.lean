/-
  No cell of these rows narrows 'for every input' (looked for: loops, veiled, ifaces, maps, wideKeys, modest, calm, conditions, laid).
  DERIVED. THE GIVEN ROWS OF THIS SEAT. 2 by the template 'for every input the law returns true; each argument reads behind the call as it read before'; 0 by the template 'total and deterministic' (their statements: Qxb6623513aTotals.lean).
  GIVEN WITH THE SEED: the statements are not yours to turn. If you find one false, say at which input.
  Laid BY PROGRAM, IN A SANDBOX (cutbox-rows.mjs): the forced cells as the released guide's own fill.sh prints them over the translation 1867d36abc7dd171… (all of the seat's roots in one cut). By AI agents, Wed Nov 11 2026. No macro, syntax, notation, axiom, sorry.
-/
import Derived.Test.Qxb6623513aChecked
import GoSem.Claim
import GoSem.ClaimJoined
import GoSem.ClaimMapViews
import Derived.JoinedTies
import Derived.KernelRfl
namespace Go.Proofs.Qxb6623513a
/- THE CELL 'sum', in the pinned program and in every row, IS THE sha256 OF THE DUMP (.gsa) THAT Qxb6623513aProg.lean LOADS. Nothing in Lean hashes anything: it is a label: what it is worth is what the hold of that sum in a sandbox is worth. -/
noncomputable def Try.pinned : Pinned := { name := "qxb6623513a", sum := "1867d36abc7dd171ab655ac92335c92cd1214f0f6602dbacc1b31b09ea32f1b7", checked := Try.checked }
namespace Rows
def none {H : Type} : Left H := { results := [], args := [] }

/-- 'zzlaws_root_b1.FnUnindexMatchesClearAndReinsert': WHATEVER THE INPUT: true; the input reads as it did. -/
def fnUnindexMatchesClearAndReinsertSpec : ChangeSpec := { name := "fnUnindexMatchesClearAndReinsert", fn := fun _ => fun
  | [d1, d2, d3] => { results := [.lit (.bool true)], args := [d1, d2, d3] }
  | _ => none }
def fnUnindexMatchesClearAndReinsertRow : OpenClaim := { program := "qxb6623513a", sum := "1867d36abc7dd171ab655ac92335c92cd1214f0f6602dbacc1b31b09ea32f1b7", func := "example.com/grudging-reply/grudging-reply/zzlaws_root_b1.FnUnindexMatchesClearAndReinsert", spec := "fnUnindexMatchesClearAndReinsert", apart := false }
def FnUnindexMatchesClearAndReinsertSaid : Prop := fnUnindexMatchesClearAndReinsertRow.holds Try.pinned (OpenSpec.ofChange fnUnindexMatchesClearAndReinsertSpec)

/-- ITS FALSE NEIGHBOUR: 'it returns false'. Refute it at one input. -/
def fnUnindexMatchesClearAndReinsertWrong : ChangeSpec := { name := "fnUnindexMatchesClearAndReinsert", fn := fun _ => fun
  | [d1, d2, d3] => { results := [.lit (.bool false)], args := [d1, d2, d3] }
  | _ => none }
def FnUnindexMatchesClearAndReinsertWrongFalsely : Prop := fnUnindexMatchesClearAndReinsertRow.holds Try.pinned (OpenSpec.ofChange fnUnindexMatchesClearAndReinsertWrong)

/-- 'zzlaws_root_b1.FnUnindexRemovesOnlyItsKeyAndKeepsTheRestFindable': WHATEVER THE INPUT: true; the input reads as it did. -/
def fnUnindexRemovesOnlyItsKeyAndKeepsTheRestFindableSpec : ChangeSpec := { name := "fnUnindexRemovesOnlyItsKeyAndKeepsTheRestFindable", fn := fun _ => fun
  | [d1, d2, d3] => { results := [.lit (.bool true)], args := [d1, d2, d3] }
  | _ => none }
def fnUnindexRemovesOnlyItsKeyAndKeepsTheRestFindableRow : OpenClaim := { program := "qxb6623513a", sum := "1867d36abc7dd171ab655ac92335c92cd1214f0f6602dbacc1b31b09ea32f1b7", func := "example.com/grudging-reply/grudging-reply/zzlaws_root_b1.FnUnindexRemovesOnlyItsKeyAndKeepsTheRestFindable", spec := "fnUnindexRemovesOnlyItsKeyAndKeepsTheRestFindable", apart := false }
def FnUnindexRemovesOnlyItsKeyAndKeepsTheRestFindableSaid : Prop := fnUnindexRemovesOnlyItsKeyAndKeepsTheRestFindableRow.holds Try.pinned (OpenSpec.ofChange fnUnindexRemovesOnlyItsKeyAndKeepsTheRestFindableSpec)

/-- ITS FALSE NEIGHBOUR: 'it returns false'. Refute it at one input. -/
def fnUnindexRemovesOnlyItsKeyAndKeepsTheRestFindableWrong : ChangeSpec := { name := "fnUnindexRemovesOnlyItsKeyAndKeepsTheRestFindable", fn := fun _ => fun
  | [d1, d2, d3] => { results := [.lit (.bool false)], args := [d1, d2, d3] }
  | _ => none }
def FnUnindexRemovesOnlyItsKeyAndKeepsTheRestFindableWrongFalsely : Prop := fnUnindexRemovesOnlyItsKeyAndKeepsTheRestFindableRow.holds Try.pinned (OpenSpec.ofChange fnUnindexRemovesOnlyItsKeyAndKeepsTheRestFindableWrong)

end Rows
end Go.Proofs.Qxb6623513a
