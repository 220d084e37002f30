/-
  NARROWER THAN 'FOR EVERY INPUT', by the rows' own cells (each row's printed sentence says how): LawS3212AReads: laid.
  DERIVED. THE GIVEN ROWS OF THIS SEAT. 1 by the template 'for every input the law returns true; each argument reads behind the call as it read before'; 0 by the template 'total and deterministic' (their statements: YbulkbnmoFmtTotals.lean).
  GIVEN WITH THE SEED: the statements are not yours to turn. If you find one false, say at which input.
  Laid BY PROGRAM, IN A SANDBOX (cutbox-rows.mjs): the forced cells as the released guide's own fill.sh prints them over the translation 0cbfa407fba25166… (all of the seat's roots in one cut). By AI agents, Wed Nov 11 2026. No macro, syntax, notation, axiom, sorry.
-/
import Derived.Test.YbulkbnmoFmtChecked
import GoSem.Claim
import GoSem.ClaimJoined
import GoSem.ClaimMapViews
import Derived.JoinedTies
import Derived.KernelRfl
namespace Go.Proofs.YbulkbnmoFmt
/- THE CELL 'sum', in the pinned program and in every row, IS THE sha256 OF THE DUMP (.gsa) THAT YbulkbnmoFmtProg.lean LOADS. Nothing in Lean hashes anything: it is a label: what it is worth is what the hold of that sum in a sandbox is worth. -/
noncomputable def Ybaf.pinned : Pinned := { name := "ybulkbnmofmt", sum := "0cbfa407fba25166a46c87a4e8dbeb4573d34d19ec7a9931652fad6f4ff355db", checked := Ybaf.checked }
namespace Rows
def none {H : Type} : Left H := { results := [], args := [] }

/- WHAT THE LISTED PACKAGE-LEVEL VARIABLES READ AS WHEN THE CALL BEGINS. Each datum BY PROGRAM (the guide's laid-datum.mjs) off the statement by which the dump's own 'gosem.cut.vars' lays the variable. In a bare row this is a premise. The card (YbulkbnmoFmtCards.lean) ties it to the program's text. -/
def laid_io_EOF {H : Type} : DataW H := .iface "*errors.errorString" (.ptr (.agg [.lit (.string [69, 79, 70])]))

/-- 'jsonfile.LawS3212AReads': WHATEVER THE INPUT: true; the input reads as it did. -/
def lawS3212AReadsSpec : ChangeSpec := { name := "lawS3212AReads", fn := fun _ => fun
  | [d1, d2, d3, d4, d5, d6] => { results := [.lit (.bool true)], args := [d1, d2, d3, d4, d5, d6] }
  | _ => none }
def lawS3212AReadsRow : OpenClaim := { program := "ybulkbnmofmt", sum := "0cbfa407fba25166a46c87a4e8dbeb4573d34d19ec7a9931652fad6f4ff355db", func := "example.com/planstead/planstead/pkg/jsonfile.LawS3212AReads", spec := "lawS3212AReads", stops := ["fmt.errorf"], inPlace := ["fmt.errorf", "internal/reflectlite.TypeOf"], unfollowed := true, recurses := true, named := ["io.EOF"], apart := false, laid := [("io.EOF", laid_io_EOF)] }
/-- NO THEOREM (fmt's text is open here; it may be false): for the released tool's asking of the row's closed facts alone. THE STATEMENT IS 'LawS3212AReadsToldSaid' (YbulkbnmoFmtCards.lean). -/
def LawS3212AReadsFormAsk : Prop := lawS3212AReadsRow.holds Ybaf.pinned (OpenSpec.ofChange lawS3212AReadsSpec)

/-- ITS FALSE NEIGHBOUR: 'it returns false'. Refute it at one input. -/
def lawS3212AReadsWrong : ChangeSpec := { name := "lawS3212AReads", fn := fun _ => fun
  | [d1, d2, d3, d4, d5, d6] => { results := [.lit (.bool false)], args := [d1, d2, d3, d4, d5, d6] }
  | _ => none }
def LawS3212AReadsWrongFormAsk : Prop := lawS3212AReadsRow.holds Ybaf.pinned (OpenSpec.ofChange lawS3212AReadsWrong)

end Rows
end Go.Proofs.YbulkbnmoFmt
