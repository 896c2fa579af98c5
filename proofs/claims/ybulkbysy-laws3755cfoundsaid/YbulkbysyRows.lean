/-
  No cell of these rows narrows 'for every input' (looked for: loops, veiled, ifaces, maps, wideKeys, modest, calm, conditions, laid).
  DERIVED. THE GIVEN ROWS OF THIS SEAT. 2 by the template 'for every input the law returns true; each argument reads behind the call as it read before'; 0 by the template 'total and deterministic' (their statements: YbulkbysyTotals.lean).
  GIVEN WITH THE SEED: the statements are not yours to turn. If you find one false, say at which input.
  Laid BY PROGRAM, IN A SANDBOX (cutbox-rows.mjs): the forced cells as the released guide's own fill.sh prints them over the translation c5b0df9527baa5a3… (all of the seat's roots in one cut). By AI agents, Wed Nov 11 2026. No macro, syntax, notation, axiom, sorry.
-/
import Derived.Test.YbulkbysyChecked
import GoSem.Claim
import GoSem.ClaimJoined
import GoSem.ClaimMapViews
import Derived.JoinedTies
import Derived.KernelRfl
namespace Go.Proofs.Ybulkbysy
/- THE CELL 'sum', in the pinned program and in every row, IS THE sha256 OF THE DUMP (.gsa) THAT YbulkbysyProg.lean LOADS. Nothing in Lean hashes anything: it is a label: what it is worth is what the hold of that sum in a sandbox is worth. -/
noncomputable def Yba.pinned : Pinned := { name := "ybulkbysy", sum := "c5b0df9527baa5a3e156942d26e2fd89d1fb868b30c3c6bf721b148f72594202", checked := Yba.checked }
namespace Rows
def none {H : Type} : Left H := { results := [], args := [] }

/-- 'client.LawS3755CExact': WHATEVER THE INPUT: true; the input reads as it did. -/
def lawS3755CExactSpec : ChangeSpec := { name := "lawS3755CExact", fn := fun _ => fun
  | [d1, d2, d3, d4] => { results := [.lit (.bool true)], args := [d1, d2, d3, d4] }
  | _ => none }
def lawS3755CExactRow : OpenClaim := { program := "ybulkbysy", sum := "c5b0df9527baa5a3e156942d26e2fd89d1fb868b30c3c6bf721b148f72594202", func := "example.com/ringhold/ringhold/client.LawS3755CExact", spec := "lawS3755CExact", apart := false }
def LawS3755CExactSaid : Prop := lawS3755CExactRow.holds Yba.pinned (OpenSpec.ofChange lawS3755CExactSpec)

/-- ITS FALSE NEIGHBOUR: 'it returns false'. Refute it at one input. -/
def lawS3755CExactWrong : ChangeSpec := { name := "lawS3755CExact", fn := fun _ => fun
  | [d1, d2, d3, d4] => { results := [.lit (.bool false)], args := [d1, d2, d3, d4] }
  | _ => none }
def LawS3755CExactWrongFalsely : Prop := lawS3755CExactRow.holds Yba.pinned (OpenSpec.ofChange lawS3755CExactWrong)

/-- 'client.LawS3755CFound': WHATEVER THE INPUT: true; the input reads as it did. -/
def lawS3755CFoundSpec : ChangeSpec := { name := "lawS3755CFound", fn := fun _ => fun
  | [d1, d2, d3, d4] => { results := [.lit (.bool true)], args := [d1, d2, d3, d4] }
  | _ => none }
def lawS3755CFoundRow : OpenClaim := { program := "ybulkbysy", sum := "c5b0df9527baa5a3e156942d26e2fd89d1fb868b30c3c6bf721b148f72594202", func := "example.com/ringhold/ringhold/client.LawS3755CFound", spec := "lawS3755CFound", apart := false }
def LawS3755CFoundSaid : Prop := lawS3755CFoundRow.holds Yba.pinned (OpenSpec.ofChange lawS3755CFoundSpec)

/-- ITS FALSE NEIGHBOUR: 'it returns false'. Refute it at one input. -/
def lawS3755CFoundWrong : ChangeSpec := { name := "lawS3755CFound", fn := fun _ => fun
  | [d1, d2, d3, d4] => { results := [.lit (.bool false)], args := [d1, d2, d3, d4] }
  | _ => none }
def LawS3755CFoundWrongFalsely : Prop := lawS3755CFoundRow.holds Yba.pinned (OpenSpec.ofChange lawS3755CFoundWrong)

end Rows
end Go.Proofs.Ybulkbysy
