/-
  DERIVED. GIVEN WITH THE SEED: THE CARDS: each row of Qxb6617515aDoorRows.lean that lists a variable, with what it lists TIED to the program's text (the seventh form; the later family's looks); each row that meets fmt, with fmt's text TOLD by the authors' own Lean function (tested against real Go, not proved from fmt's source: count such statements apart). THE CARD IS WHAT COUNTS. Prove the row's statement (the work); the ties are given (Qxb6617515aDoorTie.lean); close each card by the builder's one call (the guide's Derived/Test/ToyasCard.lean, 'card_holds'). Laid BY PROGRAM, IN A SANDBOX (cutbox-door.mjs). By AI agents, Wed Nov 11 2026. No macro, syntax, notation, axiom, sorry.
-/
import Derived.Test.Qxb6617515aDoorRows
import GoSem.ClaimSeven
namespace Go.Proofs.Qxb6617515aDoor
namespace Rows

/-- THE TIED CARD OF 'zzlaws_money_b1.FnAppendToNegationMirror'. -/
def fnAppendToNegationMirrorCard : Claim7 := { stood := { row := fnAppendToNegationMirrorRow, standIns := [], harness := (true, "05c2b7d727a13494631187365e4eb9a170ff65352a0e44e42d0c13dfa789082b"), looks := false }, kinds := [], alts := [], laidByText := true, laidKinds := [.data, .data, .data], laidTests := true, laidLooks := .later }
def FnAppendToNegationMirrorCardSaid : Prop := Claim7.holds Tryd.pinned (.plain (OpenSpec.ofChange fnAppendToNegationMirrorSpec)) fnAppendToNegationMirrorCard
end Rows
end Go.Proofs.Qxb6617515aDoor
