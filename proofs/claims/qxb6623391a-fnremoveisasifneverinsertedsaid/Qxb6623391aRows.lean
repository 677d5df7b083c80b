/-
  No cell of these rows narrows 'for every input' (looked for: loops, veiled, ifaces, maps, wideKeys, modest, calm, conditions, laid).
  DERIVED. THE GIVEN ROWS OF THIS SEAT. 1 by the template 'for every input the law returns true; each argument reads behind the call as it read before'; 0 by the template 'total and deterministic' (their statements: Qxb6623391aTotals.lean).
  GIVEN WITH THE SEED: the statements are not yours to turn. If you find one false, say at which input.
  Laid BY PROGRAM, IN A SANDBOX (cutbox-rows.mjs): the forced cells as the released guide's own fill.sh prints them over the translation 9c90b67be11a0914… (all of the seat's roots in one cut). By AI agents, Wed Nov 11 2026. No macro, syntax, notation, axiom, sorry.
-/
import Derived.Test.Qxb6623391aChecked
import GoSem.Claim
import GoSem.ClaimJoined
import GoSem.ClaimMapViews
import Derived.JoinedTies
import Derived.KernelRfl
namespace Go.Proofs.Qxb6623391a
/- THE CELL 'sum', in the pinned program and in every row, IS THE sha256 OF THE DUMP (.gsa) THAT Qxb6623391aProg.lean LOADS. Nothing in Lean hashes anything: it is a label: what it is worth is what the hold of that sum in a sandbox is worth. -/
noncomputable def Try.pinned : Pinned := { name := "qxb6623391a", sum := "9c90b67be11a09142427b38493afd6651c4363dd36738cd4d9d37a270dbcc298", checked := Try.checked }
namespace Rows
def none {H : Type} : Left H := { results := [], args := [] }

/-- 'zzlaws_root_b1.FnRemoveIsAsIfNeverInserted': WHATEVER THE INPUT: true; the input reads as it did. -/
def fnRemoveIsAsIfNeverInsertedSpec : ChangeSpec := { name := "fnRemoveIsAsIfNeverInserted", fn := fun _ => fun
  | [d1, d2, d3, d4, d5, d6] => { results := [.lit (.bool true)], args := [d1, d2, d3, d4, d5, d6] }
  | _ => none }
def fnRemoveIsAsIfNeverInsertedRow : OpenClaim := { program := "qxb6623391a", sum := "9c90b67be11a09142427b38493afd6651c4363dd36738cd4d9d37a270dbcc298", func := "example.com/conf-in-sections/conf-in-sections/zzlaws_root_b1.FnRemoveIsAsIfNeverInserted", spec := "fnRemoveIsAsIfNeverInserted", apart := false }
def FnRemoveIsAsIfNeverInsertedSaid : Prop := fnRemoveIsAsIfNeverInsertedRow.holds Try.pinned (OpenSpec.ofChange fnRemoveIsAsIfNeverInsertedSpec)

/-- ITS FALSE NEIGHBOUR: 'it returns false'. Refute it at one input. -/
def fnRemoveIsAsIfNeverInsertedWrong : ChangeSpec := { name := "fnRemoveIsAsIfNeverInserted", fn := fun _ => fun
  | [d1, d2, d3, d4, d5, d6] => { results := [.lit (.bool false)], args := [d1, d2, d3, d4, d5, d6] }
  | _ => none }
def FnRemoveIsAsIfNeverInsertedWrongFalsely : Prop := fnRemoveIsAsIfNeverInsertedRow.holds Try.pinned (OpenSpec.ofChange fnRemoveIsAsIfNeverInsertedWrong)

end Rows
end Go.Proofs.Qxb6623391a
