/-
  DERIVED. GIVEN WITH THE SEED: THE CARDS: each row of YbulkclauFmtRows.lean that lists a variable, with what it lists TIED to the program's text (the seventh form; the later family's looks); each row that meets fmt, with fmt's text TOLD by the authors' own Lean function (tested against real Go, not proved from fmt's source: count such statements apart). THE CARD IS WHAT COUNTS. Prove the row's statement (the work); the ties are given (YbulkclauFmtTie.lean); close each card by the builder's one call (the guide's Derived/Test/ToyasCard.lean, 'card_holds'). Laid BY PROGRAM, IN A SANDBOX (cutbox-door.mjs). By AI agents, Wed Nov 11 2026. No macro, syntax, notation, axiom, sorry.
-/
import Derived.Test.YbulkclauFmtRows
import GoSem.ClaimSeven
namespace Go.Proofs.YbulkclauFmt
namespace Rows

/-- THE TOLD AND TIED CARD OF 'fiducia.LawS4349BLine'. -/
def lawS4349BLineCard : Claim7 := { stood := { row := lawS4349BLineRow, standIns := [], harness := (true, "9cc50922dbf24fa878c39bd54b6f7b03abdb86ef508bc8649ddc2fe19eb177aa"), looks := true }, told := true, laidByText := true, laidKinds := [.data, .data, .data, .data, .pinned], laidTests := true, laidLooks := .later, goes := false }
def LawS4349BLineToldSaid : Prop := Claim7.holds Ybaf.pinned (.plain (OpenSpec.ofChange lawS4349BLineSpec)) lawS4349BLineCard
/-- ITS FALSE NEIGHBOUR. Refute it at one input. -/
def LawS4349BLineToldWrongFalsely : Prop := Claim7.holds Ybaf.pinned (.plain (OpenSpec.ofChange lawS4349BLineWrong)) lawS4349BLineCard

/-- THE TOLD CARD OF 'fiducia.LawS4349CTable'. -/
def lawS4349CTableCard : Claim7 := { stood := { row := lawS4349CTableRow, standIns := [], harness := (true, "9cc50922dbf24fa878c39bd54b6f7b03abdb86ef508bc8649ddc2fe19eb177aa"), looks := true }, told := true, goes := false }
def LawS4349CTableToldSaid : Prop := Claim7.holds Ybaf.pinned (.plain (OpenSpec.ofChange lawS4349CTableSpec)) lawS4349CTableCard
/-- ITS FALSE NEIGHBOUR. Refute it at one input. -/
def LawS4349CTableToldWrongFalsely : Prop := Claim7.holds Ybaf.pinned (.plain (OpenSpec.ofChange lawS4349CTableWrong)) lawS4349CTableCard

/-- THE TOLD CARD OF 'fiducia.LawS4349CPicked'. -/
def lawS4349CPickedCard : Claim7 := { stood := { row := lawS4349CPickedRow, standIns := [], harness := (true, "9cc50922dbf24fa878c39bd54b6f7b03abdb86ef508bc8649ddc2fe19eb177aa"), looks := true }, told := true, goes := false }
def LawS4349CPickedToldSaid : Prop := Claim7.holds Ybaf.pinned (.plain (OpenSpec.ofChange lawS4349CPickedSpec)) lawS4349CPickedCard
/-- ITS FALSE NEIGHBOUR. Refute it at one input. -/
def LawS4349CPickedToldWrongFalsely : Prop := Claim7.holds Ybaf.pinned (.plain (OpenSpec.ofChange lawS4349CPickedWrong)) lawS4349CPickedCard

/-- THE TOLD CARD OF 'fiducia.LawS4349CRoundTrip'. -/
def lawS4349CRoundTripCard : Claim7 := { stood := { row := lawS4349CRoundTripRow, standIns := [], harness := (true, "9cc50922dbf24fa878c39bd54b6f7b03abdb86ef508bc8649ddc2fe19eb177aa"), looks := true }, told := true, goes := false }
def LawS4349CRoundTripToldSaid : Prop := Claim7.holds Ybaf.pinned (.plain (OpenSpec.ofChange lawS4349CRoundTripSpec)) lawS4349CRoundTripCard
/-- ITS FALSE NEIGHBOUR. Refute it at one input. -/
def LawS4349CRoundTripToldWrongFalsely : Prop := Claim7.holds Ybaf.pinned (.plain (OpenSpec.ofChange lawS4349CRoundTripWrong)) lawS4349CRoundTripCard
end Rows
end Go.Proofs.YbulkclauFmt
