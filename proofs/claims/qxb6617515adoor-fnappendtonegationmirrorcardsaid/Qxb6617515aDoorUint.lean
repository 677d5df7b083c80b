/- strconv.AppendUint at base 10, by the shelf's contract. -/
import Derived.Test.Qxb6617515aDoorRows
import Derived.Shelf.Strconv.AppendInt10
import Derived.Shelf.Lay
import Derived.Ground.NamesProg
import Derived.WalkKit
namespace Go.Proofs.Qxb6617515aDoor
open Go.Shelf Go.RowKit Go.Proofs

/-- The name of the table of the powers of ten: the first on the row's list 'named'. -/
abbrev powN : String := Rows.fnAppendToNegationMirrorRow.named.headD ""

shelf_lay LaysM.n288 Nm 288 at Tryd as Tryd.lays288

/-- internal/strconv.AppendUint(dst, u, 10). -/
theorem inner_any (B n u : Nat) (hu64 : u < 18446744073709551616) (sv : Value) (xs : List Value) (w : World) (hown : w.ownsRow B 5 1 sv n xs) (hBw : B ≤ w.heap.size) (hlim : n + 20 ≤ 140737488355328)
    (htab : Lib.TabIs Tryd.prog w powN .u64 Lib.pow10Tab) :
    Calls Tryd.prog 13 #[sv, .int .u64 u, .int .i64 10] w fun e w' => ∃ v', e = .returned v' ∧ w'.ownsRow B 5 1 v' (n + (Lib.decDigits u).length) (xs ++ Lib.byteCells (Lib.decDigits u)) ∧ Below B w w' ∧ Lib.OthersKept 5 none w w' :=
  Any.internal_strconv_AppendUint_10 Tryd.lays288 B n u hu64 sv xs w hown hBw hlim htab
end Go.Proofs.Qxb6617515aDoor
