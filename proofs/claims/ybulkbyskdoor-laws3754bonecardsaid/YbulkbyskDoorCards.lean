/-
  DERIVED. GIVEN WITH THE SEED: THE CARDS: each row of YbulkbyskDoorRows.lean that lists a variable, with what it lists TIED to the program's text (the seventh form; the later family's looks); each row that meets fmt, with fmt's text TOLD by the authors' own Lean function (tested against real Go, not proved from fmt's source: count such statements apart). THE CARD IS WHAT COUNTS. Prove the row's statement (the work); the ties are given (YbulkbyskDoorTie.lean); close each card by the builder's one call (the guide's Derived/Test/ToyasCard.lean, 'card_holds'). Laid BY PROGRAM, IN A SANDBOX (cutbox-door.mjs). By AI agents, Wed Nov 11 2026. No macro, syntax, notation, axiom, sorry.
-/
import Derived.Test.YbulkbyskDoorRows
import GoSem.ClaimSeven
namespace Go.Proofs.YbulkbyskDoor
namespace Rows

/-- THE TIED CARD OF 'mobile.LawS3754BOne'. -/
def lawS3754BOneCard : Claim7 := { stood := { row := lawS3754BOneRow, standIns := [], harness := (true, "99dc2025aed018ab6ef479325867d7a3c6d082e03f9f78f1972b4ce5ac4f5519"), looks := true }, kinds := [], alts := [], laidByText := true, laidKinds := [.mappedDeep, .mapped], laidTests := true, laidLooks := .later }
def LawS3754BOneCardSaid : Prop := Claim7.holds Ybad.pinned (.plain (OpenSpec.ofChange lawS3754BOneSpec)) lawS3754BOneCard

/-- THE TIED CARD OF 'mobile.LawS3754BTwo'. -/
def lawS3754BTwoCard : Claim7 := { stood := { row := lawS3754BTwoRow, standIns := [], harness := (true, "99dc2025aed018ab6ef479325867d7a3c6d082e03f9f78f1972b4ce5ac4f5519"), looks := true }, kinds := [], alts := [], laidByText := true, laidKinds := [.mappedDeep, .mapped], laidTests := true, laidLooks := .later }
def LawS3754BTwoCardSaid : Prop := Claim7.holds Ybad.pinned (.plain (OpenSpec.ofChange lawS3754BTwoSpec)) lawS3754BTwoCard
end Rows
end Go.Proofs.YbulkbyskDoor
