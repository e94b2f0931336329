/-
  DERIVED. GIVEN WITH THE SEED: THE CARDS: each row of YbulkwecFmtRows.lean that lists a variable, with what it lists TIED to the program's text (the seventh form; the later family's looks); each row that meets fmt, with fmt's text TOLD by the authors' own Lean function (tested against real Go, not proved from fmt's source: count such statements apart). THE CARD IS WHAT COUNTS. Prove the row's statement (the work); the ties are given (YbulkwecFmtTie.lean); close each card by the builder's one call (the guide's Derived/Test/ToyasCard.lean, 'card_holds'). Laid BY PROGRAM, IN A SANDBOX (cutbox-door.mjs). By AI agents, Wed Nov 11 2026. No macro, syntax, notation, axiom, sorry.
-/
import Derived.Test.YbulkwecFmtRows
import GoSem.ClaimSeven
namespace Go.Proofs.YbulkwecFmt
namespace Rows

/-- THE TOLD AND TIED CARD OF 'tdt.LawS1120CRoundTrip'. -/
def lawS1120CRoundTripCard : Claim7 := { stood := { row := lawS1120CRoundTripRow, standIns := [], harness := (true, "fc9be63ceb3fee945fc110944bcae7a33d9ea8528e359c2fe77bb1e55fcd7ce3"), looks := false }, told := true, laidByText := true, laidKinds := [.sentinel], laidTests := true, laidLooks := .later, goes := false }
def LawS1120CRoundTripToldSaid : Prop := Claim7.holds Ybaf.pinned (.plain (OpenSpec.ofChange lawS1120CRoundTripSpec)) lawS1120CRoundTripCard
/-- ITS FALSE NEIGHBOUR. Refute it at one input. -/
def LawS1120CRoundTripToldWrongFalsely : Prop := Claim7.holds Ybaf.pinned (.plain (OpenSpec.ofChange lawS1120CRoundTripWrong)) lawS1120CRoundTripCard

/-- THE TOLD AND TIED CARD OF 'tdt.LawS1120CBadHex'. -/
def lawS1120CBadHexCard : Claim7 := { stood := { row := lawS1120CBadHexRow, standIns := [], harness := (true, "fc9be63ceb3fee945fc110944bcae7a33d9ea8528e359c2fe77bb1e55fcd7ce3"), looks := false }, told := true, laidByText := true, laidKinds := [.sentinel], laidTests := true, laidLooks := .later, goes := false }
def LawS1120CBadHexToldSaid : Prop := Claim7.holds Ybaf.pinned (.plain (OpenSpec.ofChange lawS1120CBadHexSpec)) lawS1120CBadHexCard
/-- ITS FALSE NEIGHBOUR. Refute it at one input. -/
def LawS1120CBadHexToldWrongFalsely : Prop := Claim7.holds Ybaf.pinned (.plain (OpenSpec.ofChange lawS1120CBadHexWrong)) lawS1120CBadHexCard
end Rows
end Go.Proofs.YbulkwecFmt
