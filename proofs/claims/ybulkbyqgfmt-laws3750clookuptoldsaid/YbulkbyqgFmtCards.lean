/-
  DERIVED. GIVEN WITH THE SEED: THE CARDS: each row of YbulkbyqgFmtRows.lean that lists a variable, with what it lists TIED to the program's text (the seventh form; the later family's looks); each row that meets fmt, with fmt's text TOLD by the authors' own Lean function (tested against real Go, not proved from fmt's source: count such statements apart). THE CARD IS WHAT COUNTS. Prove the row's statement (the work); the ties are given (YbulkbyqgFmtTie.lean); close each card by the builder's one call (the guide's Derived/Test/ToyasCard.lean, 'card_holds'). Laid BY PROGRAM, IN A SANDBOX (cutbox-door.mjs). By AI agents, Wed Nov 11 2026. No macro, syntax, notation, axiom, sorry.
-/
import Derived.Test.YbulkbyqgFmtRows
import GoSem.ClaimSeven
namespace Go.Proofs.YbulkbyqgFmt
namespace Rows

/-- THE TOLD CARD OF 'book.LawS3750CLookup'. -/
def lawS3750CLookupCard : Claim7 := { stood := { row := lawS3750CLookupRow, standIns := [], harness := (true, "3e981de6d824131760d69c97277ffbb388fb8f5e710494f495964613dc6c4913"), looks := false }, told := true, goes := false }
def LawS3750CLookupToldSaid : Prop := Claim7.holds Ybaf.pinned (.plain (OpenSpec.ofChange lawS3750CLookupSpec)) lawS3750CLookupCard
/-- ITS FALSE NEIGHBOUR. Refute it at one input. -/
def LawS3750CLookupToldWrongFalsely : Prop := Claim7.holds Ybaf.pinned (.plain (OpenSpec.ofChange lawS3750CLookupWrong)) lawS3750CLookupCard
end Rows
end Go.Proofs.YbulkbyqgFmt
