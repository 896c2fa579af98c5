/-
  No cell of these rows narrows 'for every input' (looked for: loops, veiled, ifaces, maps, wideKeys, modest, calm, conditions, laid).
  DERIVED. THE GIVEN ROWS OF THIS SEAT. 1 by the template 'for every input the law returns true; each argument reads behind the call as it read before'; 0 by the template 'total and deterministic' (their statements: YbulkbyqgFmtTotals.lean).
  GIVEN WITH THE SEED: the statements are not yours to turn. If you find one false, say at which input.
  Laid BY PROGRAM, IN A SANDBOX (cutbox-rows.mjs): the forced cells as the released guide's own fill.sh prints them over the translation 88b2366159ca48c3… (all of the seat's roots in one cut). By AI agents, Wed Nov 11 2026. No macro, syntax, notation, axiom, sorry.
-/
import Derived.Test.YbulkbyqgFmtChecked
import GoSem.Claim
import GoSem.ClaimJoined
import GoSem.ClaimMapViews
import Derived.JoinedTies
import Derived.KernelRfl
namespace Go.Proofs.YbulkbyqgFmt
/- THE CELL 'sum', in the pinned program and in every row, IS THE sha256 OF THE DUMP (.gsa) THAT YbulkbyqgFmtProg.lean LOADS. Nothing in Lean hashes anything: it is a label: what it is worth is what the hold of that sum in a sandbox is worth. -/
noncomputable def Ybaf.pinned : Pinned := { name := "ybulkbyqgfmt", sum := "88b2366159ca48c30d348d9a4845e340a77b762c837ae5cd2373d8bf39c9deda", checked := Ybaf.checked }
namespace Rows
def none {H : Type} : Left H := { results := [], args := [] }

/-- 'book.LawS3750CLookup': WHATEVER THE INPUT: true; the input reads as it did. -/
def lawS3750CLookupSpec : ChangeSpec := { name := "lawS3750CLookup", fn := fun _ => fun
  | [d1, d2, d3] => { results := [.lit (.bool true)], args := [d1, d2, d3] }
  | _ => none }
def lawS3750CLookupRow : OpenClaim := { program := "ybulkbyqgfmt", sum := "88b2366159ca48c30d348d9a4845e340a77b762c837ae5cd2373d8bf39c9deda", func := "example.com/solai/solai/pkg/book.LawS3750CLookup", spec := "lawS3750CLookup", stops := ["fmt.errorf"], inPlace := ["fmt.errorf"], apart := false }
/-- NO THEOREM (fmt's text is open here; it may be false): for the released tool's asking of the row's closed facts alone. THE STATEMENT IS 'LawS3750CLookupToldSaid' (YbulkbyqgFmtCards.lean). -/
def LawS3750CLookupFormAsk : Prop := lawS3750CLookupRow.holds Ybaf.pinned (OpenSpec.ofChange lawS3750CLookupSpec)

/-- ITS FALSE NEIGHBOUR: 'it returns false'. Refute it at one input. -/
def lawS3750CLookupWrong : ChangeSpec := { name := "lawS3750CLookup", fn := fun _ => fun
  | [d1, d2, d3] => { results := [.lit (.bool false)], args := [d1, d2, d3] }
  | _ => none }
def LawS3750CLookupWrongFormAsk : Prop := lawS3750CLookupRow.holds Ybaf.pinned (OpenSpec.ofChange lawS3750CLookupWrong)

end Rows
end Go.Proofs.YbulkbyqgFmt
