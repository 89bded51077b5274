/-
  DERIVED. GIVEN WITH THE SEED: THE CARDS: each row of YbulkcldmDoorRows.lean that lists a variable, with what it lists TIED to the program's text (the seventh form; the later family's looks); each row that meets fmt, with fmt's text TOLD by the authors' own Lean function (tested against real Go, not proved from fmt's source: count such statements apart). THE CARD IS WHAT COUNTS. Prove the row's statement (the work); the ties are given (YbulkcldmDoorTie.lean); close each card by the builder's one call (the guide's Derived/Test/ToyasCard.lean, 'card_holds'). Laid BY PROGRAM, IN A SANDBOX (cutbox-door.mjs). By AI agents, Wed Nov 11 2026. No macro, syntax, notation, axiom, sorry.
-/
import Derived.Test.YbulkcldmDoorRows
import GoSem.ClaimSeven
namespace Go.Proofs.YbulkcldmDoor
namespace Rows

/-- THE TIED CARD OF 'bytebrush.LawS4354BTable'. -/
def lawS4354BTableCard : Claim7 := { stood := { row := lawS4354BTableRow, standIns := [], harness := (true, "68514767827b5f670c9c44535a8e65a2cd2f0ffbeebb5947141c32fafee170f2"), looks := false }, kinds := [], alts := [], laidByText := true, laidKinds := [.data], laidTests := true, laidLooks := .later }
def LawS4354BTableCardSaid : Prop := Claim7.holds Ybad.pinned (.plain (OpenSpec.ofChange lawS4354BTableSpec)) lawS4354BTableCard

/-- THE TIED CARD OF 'bytebrush.LawS4354BCount'. -/
def lawS4354BCountCard : Claim7 := { stood := { row := lawS4354BCountRow, standIns := [], harness := (true, "68514767827b5f670c9c44535a8e65a2cd2f0ffbeebb5947141c32fafee170f2"), looks := false }, kinds := [], alts := [], laidByText := true, laidKinds := [.data], laidTests := true, laidLooks := .later }
def LawS4354BCountCardSaid : Prop := Claim7.holds Ybad.pinned (.plain (OpenSpec.ofChange lawS4354BCountSpec)) lawS4354BCountCard
end Rows
end Go.Proofs.YbulkcldmDoor
