/-
  NARROWER THAN 'FOR EVERY INPUT', by the rows' own cells (each row's printed sentence says how): LawS1119CBasicTable: laid · LawS1119CStandIn: laid.
  DERIVED. THE GIVEN ROWS OF THIS SEAT. 2 by the template 'for every input the law returns true; each argument reads behind the call as it read before'; 0 by the template 'total and deterministic' (their statements: YbulkwdoDoorTotals.lean).
  GIVEN WITH THE SEED: the statements are not yours to turn. If you find one false, say at which input.
  Laid BY PROGRAM, IN A SANDBOX (cutbox-rows.mjs): the forced cells as the released guide's own fill.sh prints them over the translation b09d31e2d5faed97… (all of the seat's roots in one cut). By AI agents, Wed Nov 11 2026. No macro, syntax, notation, axiom, sorry.
-/
import Derived.Test.YbulkwdoDoorChecked
import GoSem.Claim
import GoSem.ClaimJoined
import GoSem.ClaimMapViews
import Derived.JoinedTies
import Derived.KernelRfl
namespace Go.Proofs.YbulkwdoDoor
/- THE CELL 'sum', in the pinned program and in every row, IS THE sha256 OF THE DUMP (.gsa) THAT YbulkwdoDoorProg.lean LOADS. Nothing in Lean hashes anything: it is a label: what it is worth is what the hold of that sum in a sandbox is worth. -/
noncomputable def Ybad.pinned : Pinned := { name := "ybulkwdodoor", sum := "b09d31e2d5faed9796a60a44cdbffc5a021e0af47bc27bb8504adea4ec23c050", checked := Ybad.checked }
namespace Rows
def none {H : Type} : Left H := { results := [], args := [] }

/- WHAT THE LISTED PACKAGE-LEVEL VARIABLES READ AS WHEN THE CALL BEGINS. Each datum BY PROGRAM (the guide's laid-datum.mjs) off the statement by which the dump's own 'gosem.cut.vars' lays the variable. In a bare row this is a premise. The card (YbulkwdoDoorCards.lean) ties it to the program's text. -/
def laid_example_com_typeglass_typeglass_basicKinds {H : Type} : DataW H := .agg [.agg [.lit (.string [105, 110, 118, 97, 108, 105, 100, 32, 116, 121, 112, 101]), .lit (.int .u8 0), .lit (.int .u64 0)], .agg [.lit (.string [98, 111, 111, 108]), .lit (.int .u8 1), .lit (.int .u64 8)], .agg [.lit (.string [105, 110, 116]), .lit (.int .u8 2), .lit (.int .u64 64)], .agg [.lit (.string [105, 110, 116, 56]), .lit (.int .u8 2), .lit (.int .u64 8)], .agg [.lit (.string [105, 110, 116, 49, 54]), .lit (.int .u8 2), .lit (.int .u64 16)], .agg [.lit (.string [105, 110, 116, 51, 50]), .lit (.int .u8 2), .lit (.int .u64 32)], .agg [.lit (.string [105, 110, 116, 54, 52]), .lit (.int .u8 2), .lit (.int .u64 64)], .agg [.lit (.string [117, 105, 110, 116]), .lit (.int .u8 6), .lit (.int .u64 64)], .agg [.lit (.string [117, 105, 110, 116, 56]), .lit (.int .u8 6), .lit (.int .u64 8)], .agg [.lit (.string [117, 105, 110, 116, 49, 54]), .lit (.int .u8 6), .lit (.int .u64 16)], .agg [.lit (.string [117, 105, 110, 116, 51, 50]), .lit (.int .u8 6), .lit (.int .u64 32)], .agg [.lit (.string [117, 105, 110, 116, 54, 52]), .lit (.int .u8 6), .lit (.int .u64 64)], .agg [.lit (.string [117, 105, 110, 116, 112, 116, 114]), .lit (.int .u8 6), .lit (.int .u64 64)], .agg [.lit (.string [102, 108, 111, 97, 116, 51, 50]), .lit (.int .u8 8), .lit (.int .u64 32)], .agg [.lit (.string [102, 108, 111, 97, 116, 54, 52]), .lit (.int .u8 8), .lit (.int .u64 64)], .agg [.lit (.string [99, 111, 109, 112, 108, 101, 120, 54, 52]), .lit (.int .u8 16), .lit (.int .u64 64)], .agg [.lit (.string [99, 111, 109, 112, 108, 101, 120, 49, 50, 56]), .lit (.int .u8 16), .lit (.int .u64 128)], .agg [.lit (.string [115, 116, 114, 105, 110, 103]), .lit (.int .u8 32), .lit (.int .u64 128)], .agg [.lit (.string [117, 110, 115, 97, 102, 101, 46, 80, 111, 105, 110, 116, 101, 114]), .lit (.int .u8 0), .lit (.int .u64 64)], .agg [.lit (.string [117, 110, 116, 121, 112, 101, 100, 32, 98, 111, 111, 108]), .lit (.int .u8 65), .lit (.int .u64 0)], .agg [.lit (.string [117, 110, 116, 121, 112, 101, 100, 32, 105, 110, 116]), .lit (.int .u8 66), .lit (.int .u64 0)], .agg [.lit (.string [117, 110, 116, 121, 112, 101, 100, 32, 114, 117, 110, 101]), .lit (.int .u8 66), .lit (.int .u64 0)], .agg [.lit (.string [117, 110, 116, 121, 112, 101, 100, 32, 102, 108, 111, 97, 116]), .lit (.int .u8 72), .lit (.int .u64 0)], .agg [.lit (.string [117, 110, 116, 121, 112, 101, 100, 32, 99, 111, 109, 112, 108, 101, 120]), .lit (.int .u8 80), .lit (.int .u64 0)], .agg [.lit (.string [117, 110, 116, 121, 112, 101, 100, 32, 115, 116, 114, 105, 110, 103]), .lit (.int .u8 96), .lit (.int .u64 0)], .agg [.lit (.string [117, 110, 116, 121, 112, 101, 100, 32, 110, 105, 108]), .lit (.int .u8 64), .lit (.int .u64 0)]]

/-- 'typeglass.LawS1119CBasicTable': WHATEVER THE INPUT: true; the input reads as it did. -/
def lawS1119CBasicTableSpec : ChangeSpec := { name := "lawS1119CBasicTable", vars := ["example.com/typeglass/typeglass.basicKinds"], fn := fun _ => fun
  | [d, g1] => { results := [.lit (.bool true)], args := [d], vars := [g1] }
  | _ => none }
def lawS1119CBasicTableRow : OpenClaim := { program := "ybulkwdodoor", sum := "b09d31e2d5faed9796a60a44cdbffc5a021e0af47bc27bb8504adea4ec23c050", func := "example.com/typeglass/typeglass.LawS1119CBasicTable", spec := "lawS1119CBasicTable", unfollowed := true, recurses := true, named := ["example.com/typeglass/typeglass.basicKinds"], apart := false, laid := [("example.com/typeglass/typeglass.basicKinds", laid_example_com_typeglass_typeglass_basicKinds)] }
def LawS1119CBasicTableSaid : Prop := lawS1119CBasicTableRow.holds Ybad.pinned (OpenSpec.ofChange lawS1119CBasicTableSpec)

/-- ITS FALSE NEIGHBOUR: 'it returns false'. Refute it at one input. -/
def lawS1119CBasicTableWrong : ChangeSpec := { name := "lawS1119CBasicTable", vars := ["example.com/typeglass/typeglass.basicKinds"], fn := fun _ => fun
  | [d, g1] => { results := [.lit (.bool false)], args := [d], vars := [g1] }
  | _ => none }
def LawS1119CBasicTableWrongFalsely : Prop := lawS1119CBasicTableRow.holds Ybad.pinned (OpenSpec.ofChange lawS1119CBasicTableWrong)

/-- 'typeglass.LawS1119CStandIn': WHATEVER THE INPUT: true; the input reads as it did. -/
def lawS1119CStandInSpec : ChangeSpec := { name := "lawS1119CStandIn", vars := ["example.com/typeglass/typeglass.basicKinds"], fn := fun _ => fun
  | [d1, d2, g1] => { results := [.lit (.bool true)], args := [d1, d2], vars := [g1] }
  | _ => none }
def lawS1119CStandInRow : OpenClaim := { program := "ybulkwdodoor", sum := "b09d31e2d5faed9796a60a44cdbffc5a021e0af47bc27bb8504adea4ec23c050", func := "example.com/typeglass/typeglass.LawS1119CStandIn", spec := "lawS1119CStandIn", unfollowed := true, recurses := true, named := ["example.com/typeglass/typeglass.basicKinds"], apart := false, laid := [("example.com/typeglass/typeglass.basicKinds", laid_example_com_typeglass_typeglass_basicKinds)] }
def LawS1119CStandInSaid : Prop := lawS1119CStandInRow.holds Ybad.pinned (OpenSpec.ofChange lawS1119CStandInSpec)

/-- ITS FALSE NEIGHBOUR: 'it returns false'. Refute it at one input. -/
def lawS1119CStandInWrong : ChangeSpec := { name := "lawS1119CStandIn", vars := ["example.com/typeglass/typeglass.basicKinds"], fn := fun _ => fun
  | [d1, d2, g1] => { results := [.lit (.bool false)], args := [d1, d2], vars := [g1] }
  | _ => none }
def LawS1119CStandInWrongFalsely : Prop := lawS1119CStandInRow.holds Ybad.pinned (OpenSpec.ofChange lawS1119CStandInWrong)

end Rows
end Go.Proofs.YbulkwdoDoor
