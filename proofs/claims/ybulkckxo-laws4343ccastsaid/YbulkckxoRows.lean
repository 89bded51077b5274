/-
  No cell of these rows narrows 'for every input' (looked for: loops, veiled, ifaces, maps, wideKeys, modest, calm, conditions, laid).
  DERIVED. THE GIVEN ROWS OF THIS SEAT. 3 by the template 'for every input the law returns true; each argument reads behind the call as it read before'; 0 by the template 'total and deterministic' (their statements: YbulkckxoTotals.lean).
  GIVEN WITH THE SEED: the statements are not yours to turn. If you find one false, say at which input.
  Laid BY PROGRAM, IN A SANDBOX (cutbox-rows.mjs): the forced cells as the released guide's own fill.sh prints them over the translation 56807610628599f0… (all of the seat's roots in one cut). By AI agents, Wed Nov 11 2026. No macro, syntax, notation, axiom, sorry.
-/
import Derived.Test.YbulkckxoChecked
import GoSem.Claim
import GoSem.ClaimJoined
import GoSem.ClaimMapViews
import Derived.JoinedTies
import Derived.KernelRfl
namespace Go.Proofs.Ybulkckxo
/- THE CELL 'sum', in the pinned program and in every row, IS THE sha256 OF THE DUMP (.gsa) THAT YbulkckxoProg.lean LOADS. Nothing in Lean hashes anything: it is a label: what it is worth is what the hold of that sum in a sandbox is worth. -/
noncomputable def Yba.pinned : Pinned := { name := "ybulkckxo", sum := "56807610628599f04341c743c2e32902deb8f0fd5de2ef3ef5a57e753e844093", checked := Yba.checked }
namespace Rows
def none {H : Type} : Left H := { results := [], args := [] }

/-- 'jsonobj.LawS4343AModel': WHATEVER THE INPUT: true; the input reads as it did. -/
def lawS4343AModelSpec : ChangeSpec := { name := "lawS4343AModel", fn := fun _ => fun
  | [d1, d2] => { results := [.lit (.bool true)], args := [d1, d2] }
  | _ => none }
def lawS4343AModelRow : OpenClaim := { program := "ybulkckxo", sum := "56807610628599f04341c743c2e32902deb8f0fd5de2ef3ef5a57e753e844093", func := "example.com/ballotwright/ballotwright/jsonobj.LawS4343AModel", spec := "lawS4343AModel", apart := false }
def LawS4343AModelSaid : Prop := lawS4343AModelRow.holds Yba.pinned (OpenSpec.ofChange lawS4343AModelSpec)

/-- ITS FALSE NEIGHBOUR: 'it returns false'. Refute it at one input. -/
def lawS4343AModelWrong : ChangeSpec := { name := "lawS4343AModel", fn := fun _ => fun
  | [d1, d2] => { results := [.lit (.bool false)], args := [d1, d2] }
  | _ => none }
def LawS4343AModelWrongFalsely : Prop := lawS4343AModelRow.holds Yba.pinned (OpenSpec.ofChange lawS4343AModelWrong)

/-- 'jsonobj.LawS4343AValid': WHATEVER THE INPUT: true; the input reads as it did. -/
def lawS4343AValidSpec : ChangeSpec := { name := "lawS4343AValid", fn := fun _ => fun
  | [d1, d2] => { results := [.lit (.bool true)], args := [d1, d2] }
  | _ => none }
def lawS4343AValidRow : OpenClaim := { program := "ybulkckxo", sum := "56807610628599f04341c743c2e32902deb8f0fd5de2ef3ef5a57e753e844093", func := "example.com/ballotwright/ballotwright/jsonobj.LawS4343AValid", spec := "lawS4343AValid", apart := false }
def LawS4343AValidSaid : Prop := lawS4343AValidRow.holds Yba.pinned (OpenSpec.ofChange lawS4343AValidSpec)

/-- ITS FALSE NEIGHBOUR: 'it returns false'. Refute it at one input. -/
def lawS4343AValidWrong : ChangeSpec := { name := "lawS4343AValid", fn := fun _ => fun
  | [d1, d2] => { results := [.lit (.bool false)], args := [d1, d2] }
  | _ => none }
def LawS4343AValidWrongFalsely : Prop := lawS4343AValidRow.holds Yba.pinned (OpenSpec.ofChange lawS4343AValidWrong)

/-- 'paxos.LawS4343CCast': WHATEVER THE INPUT: true; the input reads as it did. -/
def lawS4343CCastSpec : ChangeSpec := { name := "lawS4343CCast", fn := fun _ => fun
  | [d1, d2, d3, d4, d5, d6, d7, d8, d9, d10] => { results := [.lit (.bool true)], args := [d1, d2, d3, d4, d5, d6, d7, d8, d9, d10] }
  | _ => none }
def lawS4343CCastRow : OpenClaim := { program := "ybulkckxo", sum := "56807610628599f04341c743c2e32902deb8f0fd5de2ef3ef5a57e753e844093", func := "example.com/ballotwright/ballotwright/paxos.LawS4343CCast", spec := "lawS4343CCast", apart := false }
def LawS4343CCastSaid : Prop := lawS4343CCastRow.holds Yba.pinned (OpenSpec.ofChange lawS4343CCastSpec)

/-- ITS FALSE NEIGHBOUR: 'it returns false'. Refute it at one input. -/
def lawS4343CCastWrong : ChangeSpec := { name := "lawS4343CCast", fn := fun _ => fun
  | [d1, d2, d3, d4, d5, d6, d7, d8, d9, d10] => { results := [.lit (.bool false)], args := [d1, d2, d3, d4, d5, d6, d7, d8, d9, d10] }
  | _ => none }
def LawS4343CCastWrongFalsely : Prop := lawS4343CCastRow.holds Yba.pinned (OpenSpec.ofChange lawS4343CCastWrong)

end Rows
end Go.Proofs.Ybulkckxo
