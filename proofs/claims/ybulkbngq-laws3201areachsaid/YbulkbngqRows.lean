/-
  No cell of these rows narrows 'for every input' (looked for: loops, veiled, ifaces, maps, wideKeys, modest, calm, conditions, laid).
  DERIVED. THE GIVEN ROWS OF THIS SEAT. 3 by the template 'for every input the law returns true; each argument reads behind the call as it read before'; 0 by the template 'total and deterministic' (their statements: YbulkbngqTotals.lean).
  GIVEN WITH THE SEED: the statements are not yours to turn. If you find one false, say at which input.
  Laid BY PROGRAM, IN A SANDBOX (cutbox-rows.mjs): the forced cells as the released guide's own fill.sh prints them over the translation 8a32204888269560… (all of the seat's roots in one cut). By AI agents, Wed Nov 11 2026. No macro, syntax, notation, axiom, sorry.
-/
import Derived.Test.YbulkbngqChecked
import GoSem.Claim
import GoSem.ClaimJoined
import GoSem.ClaimMapViews
import Derived.JoinedTies
import Derived.KernelRfl
namespace Go.Proofs.Ybulkbngq
/- THE CELL 'sum', in the pinned program and in every row, IS THE sha256 OF THE DUMP (.gsa) THAT YbulkbngqProg.lean LOADS. Nothing in Lean hashes anything: it is a label: what it is worth is what the hold of that sum in a sandbox is worth. -/
noncomputable def Yba.pinned : Pinned := { name := "ybulkbngq", sum := "8a32204888269560582027b2d590e5343117d8109df821d45580db1b07588ab4", checked := Yba.checked }
namespace Rows
def none {H : Type} : Left H := { results := [], args := [] }

/-- 'snow.LawS3201AReach': WHATEVER THE INPUT: true; the input reads as it did. -/
def lawS3201AReachSpec : ChangeSpec := { name := "lawS3201AReach", fn := fun _ => fun
  | [d1, d2, d3, d4] => { results := [.lit (.bool true)], args := [d1, d2, d3, d4] }
  | _ => none }
def lawS3201AReachRow : OpenClaim := { program := "ybulkbngq", sum := "8a32204888269560582027b2d590e5343117d8109df821d45580db1b07588ab4", func := "example.com/firn/firn/snow.LawS3201AReach", spec := "lawS3201AReach", unfollowed := true, recurses := true, plainKeys := false, apart := false }
def LawS3201AReachSaid : Prop := lawS3201AReachRow.holds Yba.pinned (OpenSpec.ofChange lawS3201AReachSpec)

/-- ITS FALSE NEIGHBOUR: 'it returns false'. Refute it at one input. -/
def lawS3201AReachWrong : ChangeSpec := { name := "lawS3201AReach", fn := fun _ => fun
  | [d1, d2, d3, d4] => { results := [.lit (.bool false)], args := [d1, d2, d3, d4] }
  | _ => none }
def LawS3201AReachWrongFalsely : Prop := lawS3201AReachRow.holds Yba.pinned (OpenSpec.ofChange lawS3201AReachWrong)

/-- 'snow.LawS3201CTable': WHATEVER THE INPUT: true; the input reads as it did. -/
def lawS3201CTableSpec : ChangeSpec := { name := "lawS3201CTable", fn := fun _ => fun
  | [d1, d2, d3, d4, d5] => { results := [.lit (.bool true)], args := [d1, d2, d3, d4, d5] }
  | _ => none }
def lawS3201CTableRow : OpenClaim := { program := "ybulkbngq", sum := "8a32204888269560582027b2d590e5343117d8109df821d45580db1b07588ab4", func := "example.com/firn/firn/snow.LawS3201CTable", spec := "lawS3201CTable", plainKeys := false, apart := false }
def LawS3201CTableSaid : Prop := lawS3201CTableRow.holds Yba.pinned (OpenSpec.ofChange lawS3201CTableSpec)

/-- ITS FALSE NEIGHBOUR: 'it returns false'. Refute it at one input. -/
def lawS3201CTableWrong : ChangeSpec := { name := "lawS3201CTable", fn := fun _ => fun
  | [d1, d2, d3, d4, d5] => { results := [.lit (.bool false)], args := [d1, d2, d3, d4, d5] }
  | _ => none }
def LawS3201CTableWrongFalsely : Prop := lawS3201CTableRow.holds Yba.pinned (OpenSpec.ofChange lawS3201CTableWrong)

/-- 'snow.LawS3201CSymmetric': WHATEVER THE INPUT: true; the input reads as it did. -/
def lawS3201CSymmetricSpec : ChangeSpec := { name := "lawS3201CSymmetric", fn := fun _ => fun
  | [d1, d2, d3] => { results := [.lit (.bool true)], args := [d1, d2, d3] }
  | _ => none }
def lawS3201CSymmetricRow : OpenClaim := { program := "ybulkbngq", sum := "8a32204888269560582027b2d590e5343117d8109df821d45580db1b07588ab4", func := "example.com/firn/firn/snow.LawS3201CSymmetric", spec := "lawS3201CSymmetric", plainKeys := false, apart := false }
def LawS3201CSymmetricSaid : Prop := lawS3201CSymmetricRow.holds Yba.pinned (OpenSpec.ofChange lawS3201CSymmetricSpec)

/-- ITS FALSE NEIGHBOUR: 'it returns false'. Refute it at one input. -/
def lawS3201CSymmetricWrong : ChangeSpec := { name := "lawS3201CSymmetric", fn := fun _ => fun
  | [d1, d2, d3] => { results := [.lit (.bool false)], args := [d1, d2, d3] }
  | _ => none }
def LawS3201CSymmetricWrongFalsely : Prop := lawS3201CSymmetricRow.holds Yba.pinned (OpenSpec.ofChange lawS3201CSymmetricWrong)

end Rows
end Go.Proofs.Ybulkbngq
