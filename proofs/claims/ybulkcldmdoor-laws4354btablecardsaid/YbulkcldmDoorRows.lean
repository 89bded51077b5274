/-
  NARROWER THAN 'FOR EVERY INPUT', by the rows' own cells (each row's printed sentence says how): LawS4354BTable: laid · LawS4354BCount: laid.
  DERIVED. THE GIVEN ROWS OF THIS SEAT. 2 by the template 'for every input the law returns true; each argument reads behind the call as it read before'; 0 by the template 'total and deterministic' (their statements: YbulkcldmDoorTotals.lean).
  GIVEN WITH THE SEED: the statements are not yours to turn. If you find one false, say at which input.
  Laid BY PROGRAM, IN A SANDBOX (cutbox-rows.mjs): the forced cells as the released guide's own fill.sh prints them over the translation 77c04c9a75fdaa50… (all of the seat's roots in one cut). By AI agents, Wed Nov 11 2026. No macro, syntax, notation, axiom, sorry.
-/
import Derived.Test.YbulkcldmDoorChecked
import GoSem.Claim
import GoSem.ClaimJoined
import GoSem.ClaimMapViews
import Derived.JoinedTies
import Derived.KernelRfl
namespace Go.Proofs.YbulkcldmDoor
/- THE CELL 'sum', in the pinned program and in every row, IS THE sha256 OF THE DUMP (.gsa) THAT YbulkcldmDoorProg.lean LOADS. Nothing in Lean hashes anything: it is a label: what it is worth is what the hold of that sum in a sandbox is worth. -/
noncomputable def Ybad.pinned : Pinned := { name := "ybulkcldmdoor", sum := "77c04c9a75fdaa5030b704257de607b53a589f6028c3f7ff69412907b7aa8ee0", checked := Ybad.checked }
namespace Rows
def none {H : Type} : Left H := { results := [], args := [] }

/- WHAT THE LISTED PACKAGE-LEVEL VARIABLES READ AS WHEN THE CALL BEGINS. Each datum BY PROGRAM (the guide's laid-datum.mjs) off the statement by which the dump's own 'gosem.cut.vars' lays the variable. In a bare row this is a premise. The card (YbulkcldmDoorCards.lean) ties it to the program's text. -/
def laid_example_com_bytebrush_bytebrush_revisedOps {H : Type} : DataW H := .agg [.agg [.lit (.int .u8 48), .lit (.int .i64 17), .lit (.int .i64 4)], .agg [.lit (.int .u8 52), .lit (.int .i64 16), .lit (.int .i64 1)], .agg [.lit (.int .u8 53), .lit (.int .i64 15), .lit (.int .i64 1)], .agg [.lit (.int .u8 128), .lit (.int .i64 14), .lit (.int .i64 16)]]

/-- 'bytebrush.LawS4354BTable': WHATEVER THE INPUT: true; the input reads as it did. -/
def lawS4354BTableSpec : ChangeSpec := { name := "lawS4354BTable", vars := ["example.com/bytebrush/bytebrush.revisedOps"], fn := fun _ => fun
  | [d, g1] => { results := [.lit (.bool true)], args := [d], vars := [g1] }
  | _ => none }
def lawS4354BTableRow : OpenClaim := { program := "ybulkcldmdoor", sum := "77c04c9a75fdaa5030b704257de607b53a589f6028c3f7ff69412907b7aa8ee0", func := "example.com/bytebrush/bytebrush.LawS4354BTable", spec := "lawS4354BTable", named := ["example.com/bytebrush/bytebrush.revisedOps"], apart := false, laid := [("example.com/bytebrush/bytebrush.revisedOps", laid_example_com_bytebrush_bytebrush_revisedOps)] }
def LawS4354BTableSaid : Prop := lawS4354BTableRow.holds Ybad.pinned (OpenSpec.ofChange lawS4354BTableSpec)

/-- ITS FALSE NEIGHBOUR: 'it returns false'. Refute it at one input. -/
def lawS4354BTableWrong : ChangeSpec := { name := "lawS4354BTable", vars := ["example.com/bytebrush/bytebrush.revisedOps"], fn := fun _ => fun
  | [d, g1] => { results := [.lit (.bool false)], args := [d], vars := [g1] }
  | _ => none }
def LawS4354BTableWrongFalsely : Prop := lawS4354BTableRow.holds Ybad.pinned (OpenSpec.ofChange lawS4354BTableWrong)

/-- 'bytebrush.LawS4354BCount': WHATEVER THE INPUT: true; the input reads as it did. -/
def lawS4354BCountSpec : ChangeSpec := { name := "lawS4354BCount", vars := ["example.com/bytebrush/bytebrush.revisedOps"], fn := fun _ => fun
  | [g1] => { results := [.lit (.bool true)], args := [], vars := [g1] }
  | _ => none }
def lawS4354BCountRow : OpenClaim := { program := "ybulkcldmdoor", sum := "77c04c9a75fdaa5030b704257de607b53a589f6028c3f7ff69412907b7aa8ee0", func := "example.com/bytebrush/bytebrush.LawS4354BCount", spec := "lawS4354BCount", named := ["example.com/bytebrush/bytebrush.revisedOps"], apart := false, laid := [("example.com/bytebrush/bytebrush.revisedOps", laid_example_com_bytebrush_bytebrush_revisedOps)] }
def LawS4354BCountSaid : Prop := lawS4354BCountRow.holds Ybad.pinned (OpenSpec.ofChange lawS4354BCountSpec)

/-- ITS FALSE NEIGHBOUR: 'it returns false'. Refute it at one input. -/
def lawS4354BCountWrong : ChangeSpec := { name := "lawS4354BCount", vars := ["example.com/bytebrush/bytebrush.revisedOps"], fn := fun _ => fun
  | [g1] => { results := [.lit (.bool false)], args := [], vars := [g1] }
  | _ => none }
def LawS4354BCountWrongFalsely : Prop := lawS4354BCountRow.holds Ybad.pinned (OpenSpec.ofChange lawS4354BCountWrong)

end Rows
end Go.Proofs.YbulkcldmDoor
