/-
  No cell of these rows narrows 'for every input' (looked for: loops, veiled, ifaces, maps, wideKeys, modest, calm, conditions, laid).
  DERIVED. THE GIVEN ROWS OF THIS SEAT. 1 by the template 'for every input the law returns true; each argument reads behind the call as it read before'; 0 by the template 'total and deterministic' (their statements: YbulkbnjiTotals.lean).
  GIVEN WITH THE SEED: the statements are not yours to turn. If you find one false, say at which input.
  Laid BY PROGRAM, IN A SANDBOX (cutbox-rows.mjs): the forced cells as the released guide's own fill.sh prints them over the translation b80e2d9a6495b88d… (all of the seat's roots in one cut). By AI agents, Wed Nov 11 2026. No macro, syntax, notation, axiom, sorry.
-/
import Derived.Test.YbulkbnjiChecked
import GoSem.Claim
import GoSem.ClaimJoined
import GoSem.ClaimMapViews
import Derived.JoinedTies
import Derived.KernelRfl
namespace Go.Proofs.Ybulkbnji
/- THE CELL 'sum', in the pinned program and in every row, IS THE sha256 OF THE DUMP (.gsa) THAT YbulkbnjiProg.lean LOADS. Nothing in Lean hashes anything: it is a label: what it is worth is what the hold of that sum in a sandbox is worth. -/
noncomputable def Yba.pinned : Pinned := { name := "ybulkbnji", sum := "b80e2d9a6495b88dcd4b8aacd507859d8494ccb1f86771be45aa1d374b297777", checked := Yba.checked }
namespace Rows
def none {H : Type} : Left H := { results := [], args := [] }

/-- 'stacks.LawS3206BExact': WHATEVER THE INPUT: true; the input reads as it did. -/
def lawS3206BExactSpec : ChangeSpec := { name := "lawS3206BExact", fn := fun _ => fun
  | [d1, d2, d3] => { results := [.lit (.bool true)], args := [d1, d2, d3] }
  | _ => none }
def lawS3206BExactRow : OpenClaim := { program := "ybulkbnji", sum := "b80e2d9a6495b88dcd4b8aacd507859d8494ccb1f86771be45aa1d374b297777", func := "goroscope.example/goroscope/pkg/stacks.LawS3206BExact", spec := "lawS3206BExact", apart := false }
def LawS3206BExactSaid : Prop := lawS3206BExactRow.holds Yba.pinned (OpenSpec.ofChange lawS3206BExactSpec)

/-- ITS FALSE NEIGHBOUR: 'it returns false'. Refute it at one input. -/
def lawS3206BExactWrong : ChangeSpec := { name := "lawS3206BExact", fn := fun _ => fun
  | [d1, d2, d3] => { results := [.lit (.bool false)], args := [d1, d2, d3] }
  | _ => none }
def LawS3206BExactWrongFalsely : Prop := lawS3206BExactRow.holds Yba.pinned (OpenSpec.ofChange lawS3206BExactWrong)

end Rows
end Go.Proofs.Ybulkbnji
