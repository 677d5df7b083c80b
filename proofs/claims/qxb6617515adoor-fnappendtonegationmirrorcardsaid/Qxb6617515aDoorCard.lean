/- The card: 'Rows.FnAppendToNegationMirrorCardSaid', by the builder's one call. -/
import Derived.Test.Qxb6617515aDoorRow
import Derived.Test.Qxb6617515aDoorTie
import Derived.Test.Qxb6617515aDoorCards
import Derived.SevenTiedAt
namespace Go.Proofs.Qxb6617515aDoor
open Go

theorem appendToNegationMirror : Rows.FnAppendToNegationMirrorCardSaid :=
  Claim7.holds_tied_plain_at .later [] [.data, .data, .data] true (true, "05c2b7d727a13494631187365e4eb9a170ff65352a0e44e42d0c13dfa789082b") false
    row_holds (fun _ h => by cases h) (by kernel_rfl) (fun _ h => by cases h) fnAppendToNegationMirror_row_tie rfl ⟨rfl, rfl⟩ (by kernel_rfl) rfl
    (fun f fn hf hfn => by
      obtain rfl : f = 3 := Option.some.inj ((show Tryd.prog.funcNamed Rows.fnAppendToNegationMirrorRow.func = some 3 by kernel_rfl).symm.trans hf) |>.symm
      obtain rfl : fn = Tryd.f3 := (Option.some.inj (Tryd.func3.symm.trans hfn)).symm
      exact ⟨by kernel_rfl, fun j t ht => by
        rw [Tryd.params3] at ht
        rcases j with _ | _ | j
        · obtain rfl : t = 2 := by simpa using ht.symm
          exact (show Tryd.prog.wantsStandIn 2 = false by kernel_rfl)
        · obtain rfl : t = 22 := by simpa using ht.symm
          exact (show Tryd.prog.wantsStandIn 22 = false by kernel_rfl)
        · simp at ht⟩)
    (by kernel_rfl)
#print axioms appendToNegationMirror
end Go.Proofs.Qxb6617515aDoor
