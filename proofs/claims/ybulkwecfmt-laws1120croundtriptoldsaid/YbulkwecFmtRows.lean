/-
  NARROWER THAN 'FOR EVERY INPUT', by the rows' own cells (each row's printed sentence says how): LawS1120CRoundTrip: laid · LawS1120CBadHex: laid.
  DERIVED. THE GIVEN ROWS OF THIS SEAT. 2 by the template 'for every input the law returns true; each argument reads behind the call as it read before'; 0 by the template 'total and deterministic' (their statements: YbulkwecFmtTotals.lean).
  GIVEN WITH THE SEED: the statements are not yours to turn. If you find one false, say at which input.
  Laid BY PROGRAM, IN A SANDBOX (cutbox-rows.mjs): the forced cells as the released guide's own fill.sh prints them over the translation 1790249eef5f4e49… (all of the seat's roots in one cut). By AI agents, Wed Nov 11 2026. No macro, syntax, notation, axiom, sorry.
-/
import Derived.Test.YbulkwecFmtChecked
import GoSem.Claim
import GoSem.ClaimJoined
import GoSem.ClaimMapViews
import Derived.JoinedTies
import Derived.KernelRfl
namespace Go.Proofs.YbulkwecFmt
/- THE CELL 'sum', in the pinned program and in every row, IS THE sha256 OF THE DUMP (.gsa) THAT YbulkwecFmtProg.lean LOADS. Nothing in Lean hashes anything: it is a label: what it is worth is what the hold of that sum in a sandbox is worth. -/
noncomputable def Ybaf.pinned : Pinned := { name := "ybulkwecfmt", sum := "1790249eef5f4e492fcee82725101ab526a385050b12769f1b45f948c0468928", checked := Ybaf.checked }
namespace Rows
def none {H : Type} : Left H := { results := [], args := [] }

/- WHAT THE LISTED PACKAGE-LEVEL VARIABLES READ AS WHEN THE CALL BEGINS. Each datum BY PROGRAM (the guide's laid-datum.mjs) off the statement by which the dump's own 'gosem.cut.vars' lays the variable. In a bare row this is a premise. The card (YbulkwecFmtCards.lean) ties it to the program's text. -/
def laid_encoding_hex_ErrLength {H : Type} : DataW H := .iface "*errors.errorString" (.ptr (.agg [.lit (.string [101, 110, 99, 111, 100, 105, 110, 103, 47, 104, 101, 120, 58, 32, 111, 100, 100, 32, 108, 101, 110, 103, 116, 104, 32, 104, 101, 120, 32, 115, 116, 114, 105, 110, 103])]))

/-- 'tdt.LawS1120CRoundTrip': WHATEVER THE INPUT: true; the input reads as it did. -/
def lawS1120CRoundTripSpec : ChangeSpec := { name := "lawS1120CRoundTrip", fn := fun _ => fun
  | [d1, d2, d3] => { results := [.lit (.bool true)], args := [d1, d2, d3] }
  | _ => none }
def lawS1120CRoundTripRow : OpenClaim := { program := "ybulkwecfmt", sum := "1790249eef5f4e492fcee82725101ab526a385050b12769f1b45f948c0468928", func := "example.com/tidemark/tidemark/pkg/tdt.LawS1120CRoundTrip", spec := "lawS1120CRoundTrip", stops := ["fmt.errorf"], inPlace := ["fmt.errorf"], named := ["encoding/hex.ErrLength"], apart := false, laid := [("encoding/hex.ErrLength", laid_encoding_hex_ErrLength)] }
/-- NO THEOREM (fmt's text is open here; it may be false): for the released tool's asking of the row's closed facts alone. THE STATEMENT IS 'LawS1120CRoundTripToldSaid' (YbulkwecFmtCards.lean). -/
def LawS1120CRoundTripFormAsk : Prop := lawS1120CRoundTripRow.holds Ybaf.pinned (OpenSpec.ofChange lawS1120CRoundTripSpec)

/-- ITS FALSE NEIGHBOUR: 'it returns false'. Refute it at one input. -/
def lawS1120CRoundTripWrong : ChangeSpec := { name := "lawS1120CRoundTrip", fn := fun _ => fun
  | [d1, d2, d3] => { results := [.lit (.bool false)], args := [d1, d2, d3] }
  | _ => none }
def LawS1120CRoundTripWrongFormAsk : Prop := lawS1120CRoundTripRow.holds Ybaf.pinned (OpenSpec.ofChange lawS1120CRoundTripWrong)

/-- 'tdt.LawS1120CBadHex': WHATEVER THE INPUT: true; the input reads as it did. -/
def lawS1120CBadHexSpec : ChangeSpec := { name := "lawS1120CBadHex", fn := fun _ => fun
  | [d1, d2, d3, d4, d5] => { results := [.lit (.bool true)], args := [d1, d2, d3, d4, d5] }
  | _ => none }
def lawS1120CBadHexRow : OpenClaim := { program := "ybulkwecfmt", sum := "1790249eef5f4e492fcee82725101ab526a385050b12769f1b45f948c0468928", func := "example.com/tidemark/tidemark/pkg/tdt.LawS1120CBadHex", spec := "lawS1120CBadHex", stops := ["fmt.errorf"], inPlace := ["fmt.errorf"], named := ["encoding/hex.ErrLength"], apart := false, laid := [("encoding/hex.ErrLength", laid_encoding_hex_ErrLength)] }
/-- NO THEOREM (fmt's text is open here; it may be false): for the released tool's asking of the row's closed facts alone. THE STATEMENT IS 'LawS1120CBadHexToldSaid' (YbulkwecFmtCards.lean). -/
def LawS1120CBadHexFormAsk : Prop := lawS1120CBadHexRow.holds Ybaf.pinned (OpenSpec.ofChange lawS1120CBadHexSpec)

/-- ITS FALSE NEIGHBOUR: 'it returns false'. Refute it at one input. -/
def lawS1120CBadHexWrong : ChangeSpec := { name := "lawS1120CBadHex", fn := fun _ => fun
  | [d1, d2, d3, d4, d5] => { results := [.lit (.bool false)], args := [d1, d2, d3, d4, d5] }
  | _ => none }
def LawS1120CBadHexWrongFormAsk : Prop := lawS1120CBadHexRow.holds Ybaf.pinned (OpenSpec.ofChange lawS1120CBadHexWrong)

end Rows
end Go.Proofs.YbulkwecFmt
