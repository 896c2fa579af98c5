/-
  No cell of these rows narrows 'for every input' (looked for: loops, veiled, ifaces, maps, wideKeys, modest, calm, conditions, laid).
  DERIVED. THE GIVEN ROWS OF THIS SEAT. 2 by the template 'for every input the law returns true; each argument reads behind the call as it read before'; 0 by the template 'total and deterministic' (their statements: YbulkbyqgTotals.lean).
  GIVEN WITH THE SEED: the statements are not yours to turn. If you find one false, say at which input.
  Laid BY PROGRAM, IN A SANDBOX (cutbox-rows.mjs): the forced cells as the released guide's own fill.sh prints them over the translation 6f53f072b1b9e697… (all of the seat's roots in one cut). By AI agents, Wed Nov 11 2026. No macro, syntax, notation, axiom, sorry.
-/
import Derived.Test.YbulkbyqgChecked
import GoSem.Claim
import GoSem.ClaimJoined
import GoSem.ClaimMapViews
import Derived.JoinedTies
import Derived.KernelRfl
namespace Go.Proofs.Ybulkbyqg
/- THE CELL 'sum', in the pinned program and in every row, IS THE sha256 OF THE DUMP (.gsa) THAT YbulkbyqgProg.lean LOADS. Nothing in Lean hashes anything: it is a label: what it is worth is what the hold of that sum in a sandbox is worth. -/
noncomputable def Yba.pinned : Pinned := { name := "ybulkbyqg", sum := "6f53f072b1b9e697cb9724964fe84bc1d7eddcad57936abd9dee07a36c8c1326", checked := Yba.checked }
namespace Rows
def none {H : Type} : Left H := { results := [], args := [] }

/-- 'book.LawS3750BSums': WHATEVER THE INPUT: true; the input reads as it did. -/
def lawS3750BSumsSpec : ChangeSpec := { name := "lawS3750BSums", fn := fun _ => fun
  | [d1, d2, d3, d4] => { results := [.lit (.bool true)], args := [d1, d2, d3, d4] }
  | _ => none }
def lawS3750BSumsRow : OpenClaim := { program := "ybulkbyqg", sum := "6f53f072b1b9e697cb9724964fe84bc1d7eddcad57936abd9dee07a36c8c1326", func := "example.com/solai/solai/pkg/book.LawS3750BSums", spec := "lawS3750BSums", apart := false }
def LawS3750BSumsSaid : Prop := lawS3750BSumsRow.holds Yba.pinned (OpenSpec.ofChange lawS3750BSumsSpec)

/-- ITS FALSE NEIGHBOUR: 'it returns false'. Refute it at one input. -/
def lawS3750BSumsWrong : ChangeSpec := { name := "lawS3750BSums", fn := fun _ => fun
  | [d1, d2, d3, d4] => { results := [.lit (.bool false)], args := [d1, d2, d3, d4] }
  | _ => none }
def LawS3750BSumsWrongFalsely : Prop := lawS3750BSumsRow.holds Yba.pinned (OpenSpec.ofChange lawS3750BSumsWrong)

/-- 'book.LawS3750BStep': WHATEVER THE INPUT: true; the input reads as it did. -/
def lawS3750BStepSpec : ChangeSpec := { name := "lawS3750BStep", fn := fun _ => fun
  | [d1, d2, d3, d4] => { results := [.lit (.bool true)], args := [d1, d2, d3, d4] }
  | _ => none }
def lawS3750BStepRow : OpenClaim := { program := "ybulkbyqg", sum := "6f53f072b1b9e697cb9724964fe84bc1d7eddcad57936abd9dee07a36c8c1326", func := "example.com/solai/solai/pkg/book.LawS3750BStep", spec := "lawS3750BStep", unfollowed := true, recurses := true, apart := false }
def LawS3750BStepSaid : Prop := lawS3750BStepRow.holds Yba.pinned (OpenSpec.ofChange lawS3750BStepSpec)

/-- ITS FALSE NEIGHBOUR: 'it returns false'. Refute it at one input. -/
def lawS3750BStepWrong : ChangeSpec := { name := "lawS3750BStep", fn := fun _ => fun
  | [d1, d2, d3, d4] => { results := [.lit (.bool false)], args := [d1, d2, d3, d4] }
  | _ => none }
def LawS3750BStepWrongFalsely : Prop := lawS3750BStepRow.holds Yba.pinned (OpenSpec.ofChange lawS3750BStepWrong)

end Rows
end Go.Proofs.Ybulkbyqg
