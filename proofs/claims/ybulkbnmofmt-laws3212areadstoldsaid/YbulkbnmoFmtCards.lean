/-
  DERIVED. GIVEN WITH THE SEED: THE CARDS: each row of YbulkbnmoFmtRows.lean that lists a variable, with what it lists TIED to the program's text (the seventh form; the later family's looks); each row that meets fmt, with fmt's text TOLD by the authors' own Lean function (tested against real Go, not proved from fmt's source: count such statements apart). THE CARD IS WHAT COUNTS. Prove the row's statement (the work); the ties are given (YbulkbnmoFmtTie.lean); close each card by the builder's one call (the guide's Derived/Test/ToyasCard.lean, 'card_holds'). Laid BY PROGRAM, IN A SANDBOX (cutbox-door.mjs). By AI agents, Wed Nov 11 2026. No macro, syntax, notation, axiom, sorry.
-/
import Derived.Test.YbulkbnmoFmtRows
import GoSem.ClaimSeven
namespace Go.Proofs.YbulkbnmoFmt
namespace Rows

/-- THE TOLD AND TIED CARD OF 'jsonfile.LawS3212AReads'. -/
def lawS3212AReadsCard : Claim7 := { stood := { row := lawS3212AReadsRow, standIns := [], harness := (true, "9d3f8532a1094877b0f01b95edfae7c57eb8102b2ce6cf9f9bd51aca48e99177"), looks := true }, told := true, laidByText := true, laidKinds := [.called], laidTests := true, laidLooks := .later, goes := false }
def LawS3212AReadsToldSaid : Prop := Claim7.holds Ybaf.pinned (.plain (OpenSpec.ofChange lawS3212AReadsSpec)) lawS3212AReadsCard
/-- ITS FALSE NEIGHBOUR. Refute it at one input. -/
def LawS3212AReadsToldWrongFalsely : Prop := Claim7.holds Ybaf.pinned (.plain (OpenSpec.ofChange lawS3212AReadsWrong)) lawS3212AReadsCard
end Rows
end Go.Proofs.YbulkbnmoFmt
