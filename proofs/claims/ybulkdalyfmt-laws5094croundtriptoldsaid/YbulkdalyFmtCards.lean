/-
  DERIVED. GIVEN WITH THE SEED: THE CARDS: each row of YbulkdalyFmtRows.lean that lists a variable, with what it lists TIED to the program's text (the seventh form; the later family's looks); each row that meets fmt, with fmt's text TOLD by the authors' own Lean function (tested against real Go, not proved from fmt's source: count such statements apart). THE CARD IS WHAT COUNTS. Prove the row's statement (the work); the ties are given (YbulkdalyFmtTie.lean); close each card by the builder's one call (the guide's Derived/Test/ToyasCard.lean, 'card_holds'). Laid BY PROGRAM, IN A SANDBOX (cutbox-door.mjs). By AI agents, Wed Nov 11 2026. No macro, syntax, notation, axiom, sorry.
-/
import Derived.Test.YbulkdalyFmtRows
import GoSem.ClaimSeven
namespace Go.Proofs.YbulkdalyFmt
namespace Rows

/-- THE TOLD AND TIED CARD OF 'ndn.LawS5094CModel'. -/
def lawS5094CModelCard : Claim7 := { stood := { row := lawS5094CModelRow, standIns := [], harness := (true, "ec50a947ffe3b22907f84a54cb67d7e672c957836b5be8ceba17d4c0cad1d8c9"), looks := false }, told := true, laidByText := true, laidKinds := [.sentinel], laidTests := true, laidLooks := .later, goes := false }
def LawS5094CModelToldSaid : Prop := Claim7.holds Ybaf.pinned (.plain (OpenSpec.ofChange lawS5094CModelSpec)) lawS5094CModelCard
/-- ITS FALSE NEIGHBOUR. Refute it at one input. -/
def LawS5094CModelToldWrongFalsely : Prop := Claim7.holds Ybaf.pinned (.plain (OpenSpec.ofChange lawS5094CModelWrong)) lawS5094CModelCard

/-- THE TOLD AND TIED CARD OF 'ndn.LawS5094CRoundTrip'. -/
def lawS5094CRoundTripCard : Claim7 := { stood := { row := lawS5094CRoundTripRow, standIns := [], harness := (true, "ec50a947ffe3b22907f84a54cb67d7e672c957836b5be8ceba17d4c0cad1d8c9"), looks := false }, told := true, laidByText := true, laidKinds := [.sentinel], laidTests := true, laidLooks := .later, goes := false }
def LawS5094CRoundTripToldSaid : Prop := Claim7.holds Ybaf.pinned (.plain (OpenSpec.ofChange lawS5094CRoundTripSpec)) lawS5094CRoundTripCard
/-- ITS FALSE NEIGHBOUR. Refute it at one input. -/
def LawS5094CRoundTripToldWrongFalsely : Prop := Claim7.holds Ybaf.pinned (.plain (OpenSpec.ofChange lawS5094CRoundTripWrong)) lawS5094CRoundTripCard
end Rows
end Go.Proofs.YbulkdalyFmt
