/-
  NARROWER THAN 'FOR EVERY INPUT', by the rows' own cells (each row's printed sentence says how): LawS3754BOne: maps, laid · LawS3754BTwo: maps, laid.
  DERIVED. THE GIVEN ROWS OF THIS SEAT. 2 by the template 'for every input the law returns true; each argument reads behind the call as it read before'; 0 by the template 'total and deterministic' (their statements: YbulkbyskDoorTotals.lean).
  GIVEN WITH THE SEED: the statements are not yours to turn. If you find one false, say at which input.
  Laid BY PROGRAM, IN A SANDBOX (cutbox-rows.mjs): the forced cells as the released guide's own fill.sh prints them over the translation b366a2f57a288c50… (all of the seat's roots in one cut). By AI agents, Wed Nov 11 2026. No macro, syntax, notation, axiom, sorry.
-/
import Derived.Test.YbulkbyskDoorChecked
import GoSem.Claim
import GoSem.ClaimJoined
import GoSem.ClaimMapViews
import Derived.JoinedTies
import Derived.KernelRfl
namespace Go.Proofs.YbulkbyskDoor
/- THE CELL 'sum', in the pinned program and in every row, IS THE sha256 OF THE DUMP (.gsa) THAT YbulkbyskDoorProg.lean LOADS. Nothing in Lean hashes anything: it is a label: what it is worth is what the hold of that sum in a sandbox is worth. -/
noncomputable def Ybad.pinned : Pinned := { name := "ybulkbyskdoor", sum := "b366a2f57a288c50ccd4a0ddd14ad571f1702fd10670ce272544ee2aac8a075e", checked := Ybad.checked }
namespace Rows
def none {H : Type} : Left H := { results := [], args := [] }

/- WHAT THE LISTED PACKAGE-LEVEL VARIABLES READ AS WHEN THE CALL BEGINS. Each datum BY PROGRAM (the guide's laid-datum.mjs) off the statement by which the dump's own 'gosem.cut.vars' lays the variable. In a bare row this is a premise. The card (YbulkbyskDoorCards.lean) ties it to the program's text. -/
def laid_example_com_flashhook_flashhook_call_supervisors {H : Type} : DataW H := .map [(.int .u8 0, .map [(.int .u8 1, .lit (.string [84, 51, 48, 51])), (.int .u8 3, .lit (.string [84, 51, 49, 48])), (.int .u8 8, .lit (.string [84, 51, 49, 51]))]), (.int .u8 1, .map [(.int .u8 6, .lit (.string [84, 51, 48, 51])), (.int .u8 7, .lit (.string [84, 51, 48, 49])), (.int .u8 9, .lit (.string [84, 51, 49, 48])), (.int .u8 28, .lit (.string [84, 51, 49, 51]))])]
def laid_example_com_flashhook_flashhook_call_defaults {H : Type} : DataW H := .map [(.string [84, 51, 48, 49], .lit (.int .i64 180000000000)), (.string [84, 51, 48, 51], .lit (.int .i64 30000000000)), (.string [84, 51, 48, 53], .lit (.int .i64 30000000000)), (.string [84, 51, 48, 56], .lit (.int .i64 30000000000)), (.string [84, 51, 49, 48], .lit (.int .i64 30000000000)), (.string [84, 51, 49, 51], .lit (.int .i64 30000000000))]

/-- 'mobile.LawS3754BOne': WHATEVER THE INPUT: true; the input reads as it did. -/
def lawS3754BOneSpec : ChangeSpec := { name := "lawS3754BOne", vars := ["example.com/flashhook/flashhook/call.supervisors", "example.com/flashhook/flashhook/call.defaults"], fn := fun _ => fun
  | [d1, d2, d3, d4, d5, d6, d7, g1, g2] => { results := [.lit (.bool true)], args := [d1, d2, d3, d4, d5, d6, d7], vars := [g1, g2] }
  | _ => none }
def lawS3754BOneRow : OpenClaim := { program := "ybulkbyskdoor", sum := "b366a2f57a288c50ccd4a0ddd14ad571f1702fd10670ce272544ee2aac8a075e", func := "example.com/flashhook/flashhook/mobile.LawS3754BOne", spec := "lawS3754BOne", unfollowed := true, recurses := true, named := ["example.com/flashhook/flashhook/call.supervisors", "example.com/flashhook/flashhook/call.defaults"], maps := true, plainKeys := false, apart := false, laid := [("example.com/flashhook/flashhook/call.supervisors", laid_example_com_flashhook_flashhook_call_supervisors), ("example.com/flashhook/flashhook/call.defaults", laid_example_com_flashhook_flashhook_call_defaults)] }
def LawS3754BOneSaid : Prop := lawS3754BOneRow.holds Ybad.pinned (OpenSpec.ofChange lawS3754BOneSpec)

/-- ITS FALSE NEIGHBOUR: 'it returns false'. Refute it at one input. -/
def lawS3754BOneWrong : ChangeSpec := { name := "lawS3754BOne", vars := ["example.com/flashhook/flashhook/call.supervisors", "example.com/flashhook/flashhook/call.defaults"], fn := fun _ => fun
  | [d1, d2, d3, d4, d5, d6, d7, g1, g2] => { results := [.lit (.bool false)], args := [d1, d2, d3, d4, d5, d6, d7], vars := [g1, g2] }
  | _ => none }
def LawS3754BOneWrongFalsely : Prop := lawS3754BOneRow.holds Ybad.pinned (OpenSpec.ofChange lawS3754BOneWrong)

/-- 'mobile.LawS3754BTwo': WHATEVER THE INPUT: true; the input reads as it did. -/
def lawS3754BTwoSpec : ChangeSpec := { name := "lawS3754BTwo", vars := ["example.com/flashhook/flashhook/call.supervisors", "example.com/flashhook/flashhook/call.defaults"], fn := fun _ => fun
  | [d1, d2, d3, d4, d5, d6, d7, d8, g1, g2] => { results := [.lit (.bool true)], args := [d1, d2, d3, d4, d5, d6, d7, d8], vars := [g1, g2] }
  | _ => none }
def lawS3754BTwoRow : OpenClaim := { program := "ybulkbyskdoor", sum := "b366a2f57a288c50ccd4a0ddd14ad571f1702fd10670ce272544ee2aac8a075e", func := "example.com/flashhook/flashhook/mobile.LawS3754BTwo", spec := "lawS3754BTwo", unfollowed := true, recurses := true, named := ["example.com/flashhook/flashhook/call.supervisors", "example.com/flashhook/flashhook/call.defaults"], maps := true, plainKeys := false, apart := false, laid := [("example.com/flashhook/flashhook/call.supervisors", laid_example_com_flashhook_flashhook_call_supervisors), ("example.com/flashhook/flashhook/call.defaults", laid_example_com_flashhook_flashhook_call_defaults)] }
def LawS3754BTwoSaid : Prop := lawS3754BTwoRow.holds Ybad.pinned (OpenSpec.ofChange lawS3754BTwoSpec)

/-- ITS FALSE NEIGHBOUR: 'it returns false'. Refute it at one input. -/
def lawS3754BTwoWrong : ChangeSpec := { name := "lawS3754BTwo", vars := ["example.com/flashhook/flashhook/call.supervisors", "example.com/flashhook/flashhook/call.defaults"], fn := fun _ => fun
  | [d1, d2, d3, d4, d5, d6, d7, d8, g1, g2] => { results := [.lit (.bool false)], args := [d1, d2, d3, d4, d5, d6, d7, d8], vars := [g1, g2] }
  | _ => none }
def LawS3754BTwoWrongFalsely : Prop := lawS3754BTwoRow.holds Ybad.pinned (OpenSpec.ofChange lawS3754BTwoWrong)

end Rows
end Go.Proofs.YbulkbyskDoor
