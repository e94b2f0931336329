/-
  DERIVED. GIVEN WITH THE SEED: THE CARDS: each row of YbulkwdoDoorRows.lean that lists a variable, with what it lists TIED to the program's text (the seventh form; the later family's looks); each row that meets fmt, with fmt's text TOLD by the authors' own Lean function (tested against real Go, not proved from fmt's source: count such statements apart). THE CARD IS WHAT COUNTS. Prove the row's statement (the work); the ties are given (YbulkwdoDoorTie.lean); close each card by the builder's one call (the guide's Derived/Test/ToyasCard.lean, 'card_holds'). Laid BY PROGRAM, IN A SANDBOX (cutbox-door.mjs). By AI agents, Wed Nov 11 2026. No macro, syntax, notation, axiom, sorry.
-/
import Derived.Test.YbulkwdoDoorRows
import GoSem.ClaimSeven
namespace Go.Proofs.YbulkwdoDoor
namespace Rows

/-- THE TIED CARD OF 'typeglass.LawS1119CBasicTable'. -/
def lawS1119CBasicTableCard : Claim7 := { stood := { row := lawS1119CBasicTableRow, standIns := [], harness := (true, "5617514bcf67f2e701a99a751fa10ad47281034753eff614bb2d2bdc5b7e892a"), looks := true }, kinds := [], alts := [], laidByText := true, laidKinds := [.wider], laidTests := true, laidLooks := .later }
def LawS1119CBasicTableCardSaid : Prop := Claim7.holds Ybad.pinned (.plain (OpenSpec.ofChange lawS1119CBasicTableSpec)) lawS1119CBasicTableCard

/-- THE TIED CARD OF 'typeglass.LawS1119CStandIn'. -/
def lawS1119CStandInCard : Claim7 := { stood := { row := lawS1119CStandInRow, standIns := [], harness := (true, "5617514bcf67f2e701a99a751fa10ad47281034753eff614bb2d2bdc5b7e892a"), looks := true }, kinds := [], alts := [], laidByText := true, laidKinds := [.wider], laidTests := true, laidLooks := .later }
def LawS1119CStandInCardSaid : Prop := Claim7.holds Ybad.pinned (.plain (OpenSpec.ofChange lawS1119CStandInSpec)) lawS1119CStandInCard
end Rows
end Go.Proofs.YbulkwdoDoor
