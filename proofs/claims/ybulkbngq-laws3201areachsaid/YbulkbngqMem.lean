/-
  What the parts of 'snow.LawS3201AReach' (3) share.
-/
import Derived.Test.YbulkbngqWalk
import Derived.Deep.OwnRows
namespace Go.Proofs.Ybulkbngq
open Go.RowKit Plain

/-- The loops of a code, the outer ahead of the inner. -/
def loopsOf : Code → List Code
  | .loop c => .loop c :: loopsOf c
  | .seq a b => loopsOf a ++ loopsOf b
  | .block _ c => loopsOf c
  | .scope c => loopsOf c
  | .cond _ a b => loopsOf a ++ loopsOf b
  | _ => []
def loopAt (k : Nat) (c : Code) : Code := (loopsOf c).getD k .skip
end Go.Proofs.Ybulkbngq
