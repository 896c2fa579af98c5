/-
  No cell of these rows narrows 'for every input' (looked for: loops, veiled, ifaces, maps, wideKeys, modest, calm, conditions, laid).
  DERIVED. THE GIVEN ROWS OF THIS SEAT. 1 by the template 'for every input the law returns true; each argument reads behind the call as it read before'; 0 by the template 'total and deterministic' (their statements: YbulkbyskTotals.lean).
  GIVEN WITH THE SEED: the statements are not yours to turn. If you find one false, say at which input.
  Laid BY PROGRAM, IN A SANDBOX (cutbox-rows.mjs): the forced cells as the released guide's own fill.sh prints them over the translation 931fa88d587fea02… (all of the seat's roots in one cut). By AI agents, Wed Nov 11 2026. No macro, syntax, notation, axiom, sorry.
-/
import Derived.Test.YbulkbyskChecked
import GoSem.Claim
import GoSem.ClaimJoined
import GoSem.ClaimMapViews
import Derived.JoinedTies
import Derived.KernelRfl
namespace Go.Proofs.Ybulkbysk
/- THE CELL 'sum', in the pinned program and in every row, IS THE sha256 OF THE DUMP (.gsa) THAT YbulkbyskProg.lean LOADS. Nothing in Lean hashes anything: it is a label: what it is worth is what the hold of that sum in a sandbox is worth. -/
noncomputable def Yba.pinned : Pinned := { name := "ybulkbysk", sum := "931fa88d587fea027dda1d5269127eab9cf8844f87c36517947b2a0bff64e63e", checked := Yba.checked }
namespace Rows
def none {H : Type} : Left H := { results := [], args := [] }

/-- 'scenario.LawS3754CModel': WHATEVER THE INPUT: true; the input reads as it did. -/
def lawS3754CModelSpec : ChangeSpec := { name := "lawS3754CModel", fn := fun _ => fun
  | [d1, d2] => { results := [.lit (.bool true)], args := [d1, d2] }
  | _ => none }
def lawS3754CModelRow : OpenClaim := { program := "ybulkbysk", sum := "931fa88d587fea027dda1d5269127eab9cf8844f87c36517947b2a0bff64e63e", func := "example.com/flashhook/flashhook/internal/scenario.LawS3754CModel", spec := "lawS3754CModel", apart := false }
def LawS3754CModelSaid : Prop := lawS3754CModelRow.holds Yba.pinned (OpenSpec.ofChange lawS3754CModelSpec)

/-- ITS FALSE NEIGHBOUR: 'it returns false'. Refute it at one input. -/
def lawS3754CModelWrong : ChangeSpec := { name := "lawS3754CModel", fn := fun _ => fun
  | [d1, d2] => { results := [.lit (.bool false)], args := [d1, d2] }
  | _ => none }
def LawS3754CModelWrongFalsely : Prop := lawS3754CModelRow.holds Yba.pinned (OpenSpec.ofChange lawS3754CModelWrong)

end Rows
end Go.Proofs.Ybulkbysk
