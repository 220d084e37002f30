/-
  No cell of these rows narrows 'for every input' (looked for: loops, veiled, ifaces, maps, wideKeys, modest, calm, conditions, laid).
  DERIVED. THE GIVEN ROWS OF THIS SEAT. 2 by the template 'for every input the law returns true; each argument reads behind the call as it read before'; 0 by the template 'total and deterministic' (their statements: YbulkbnigTotals.lean).
  GIVEN WITH THE SEED: the statements are not yours to turn. If you find one false, say at which input.
  Laid BY PROGRAM, IN A SANDBOX (cutbox-rows.mjs): the forced cells as the released guide's own fill.sh prints them over the translation 7f560fc65f92f96d… (all of the seat's roots in one cut). By AI agents, Wed Nov 11 2026. No macro, syntax, notation, axiom, sorry.
-/
import Derived.Test.YbulkbnigChecked
import GoSem.Claim
import GoSem.ClaimJoined
import GoSem.ClaimMapViews
import Derived.JoinedTies
import Derived.KernelRfl
namespace Go.Proofs.Ybulkbnig
/- THE CELL 'sum', in the pinned program and in every row, IS THE sha256 OF THE DUMP (.gsa) THAT YbulkbnigProg.lean LOADS. Nothing in Lean hashes anything: it is a label: what it is worth is what the hold of that sum in a sandbox is worth. -/
noncomputable def Yba.pinned : Pinned := { name := "ybulkbnig", sum := "7f560fc65f92f96dc6f52e280ce595629480e0c074590ffcaf87c486b6e90029", checked := Yba.checked }
namespace Rows
def none {H : Type} : Left H := { results := [], args := [] }

/-- 'hopweave.LawS3204BExact': WHATEVER THE INPUT: true; the input reads as it did. -/
def lawS3204BExactSpec : ChangeSpec := { name := "lawS3204BExact", fn := fun _ => fun
  | [d] => { results := [.lit (.bool true)], args := [d] }
  | _ => none }
def lawS3204BExactRow : OpenClaim := { program := "ybulkbnig", sum := "7f560fc65f92f96dc6f52e280ce595629480e0c074590ffcaf87c486b6e90029", func := "example.com/hopweave/hopweave.LawS3204BExact", spec := "lawS3204BExact", plainKeys := false, apart := false }
def LawS3204BExactSaid : Prop := lawS3204BExactRow.holds Yba.pinned (OpenSpec.ofChange lawS3204BExactSpec)

/-- ITS FALSE NEIGHBOUR: 'it returns false'. Refute it at one input. -/
def lawS3204BExactWrong : ChangeSpec := { name := "lawS3204BExact", fn := fun _ => fun
  | [d] => { results := [.lit (.bool false)], args := [d] }
  | _ => none }
def LawS3204BExactWrongFalsely : Prop := lawS3204BExactRow.holds Yba.pinned (OpenSpec.ofChange lawS3204BExactWrong)

/-- 'hopweave.LawS3204BOnlyMaxQueries': WHATEVER THE INPUT: true; the input reads as it did. -/
def lawS3204BOnlyMaxQueriesSpec : ChangeSpec := { name := "lawS3204BOnlyMaxQueries", fn := fun _ => fun
  | [d1, d2, d3, d4, d5, d6] => { results := [.lit (.bool true)], args := [d1, d2, d3, d4, d5, d6] }
  | _ => none }
def lawS3204BOnlyMaxQueriesRow : OpenClaim := { program := "ybulkbnig", sum := "7f560fc65f92f96dc6f52e280ce595629480e0c074590ffcaf87c486b6e90029", func := "example.com/hopweave/hopweave.LawS3204BOnlyMaxQueries", spec := "lawS3204BOnlyMaxQueries", plainKeys := false, apart := false }
def LawS3204BOnlyMaxQueriesSaid : Prop := lawS3204BOnlyMaxQueriesRow.holds Yba.pinned (OpenSpec.ofChange lawS3204BOnlyMaxQueriesSpec)

/-- ITS FALSE NEIGHBOUR: 'it returns false'. Refute it at one input. -/
def lawS3204BOnlyMaxQueriesWrong : ChangeSpec := { name := "lawS3204BOnlyMaxQueries", fn := fun _ => fun
  | [d1, d2, d3, d4, d5, d6] => { results := [.lit (.bool false)], args := [d1, d2, d3, d4, d5, d6] }
  | _ => none }
def LawS3204BOnlyMaxQueriesWrongFalsely : Prop := lawS3204BOnlyMaxQueriesRow.holds Yba.pinned (OpenSpec.ofChange lawS3204BOnlyMaxQueriesWrong)

end Rows
end Go.Proofs.Ybulkbnig
