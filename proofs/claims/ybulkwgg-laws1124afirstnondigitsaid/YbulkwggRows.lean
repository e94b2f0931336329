/-
  No cell of these rows narrows 'for every input' (looked for: loops, veiled, ifaces, maps, wideKeys, modest, calm, conditions, laid).
  DERIVED. THE GIVEN ROWS OF THIS SEAT. 5 by the template 'for every input the law returns true; each argument reads behind the call as it read before'; 0 by the template 'total and deterministic' (their statements: YbulkwggTotals.lean).
  GIVEN WITH THE SEED: the statements are not yours to turn. If you find one false, say at which input.
  Laid BY PROGRAM, IN A SANDBOX (cutbox-rows.mjs): the forced cells as the released guide's own fill.sh prints them over the translation 92d7f95d5ffde4fd… (all of the seat's roots in one cut). By AI agents, Wed Nov 11 2026. No macro, syntax, notation, axiom, sorry.
-/
import Derived.Test.YbulkwggChecked
import GoSem.Claim
import GoSem.ClaimJoined
import GoSem.ClaimMapViews
import Derived.JoinedTies
import Derived.KernelRfl
namespace Go.Proofs.Ybulkwgg
/- THE CELL 'sum', in the pinned program and in every row, IS THE sha256 OF THE DUMP (.gsa) THAT YbulkwggProg.lean LOADS. Nothing in Lean hashes anything: it is a label: what it is worth is what the hold of that sum in a sandbox is worth. -/
noncomputable def Yba.pinned : Pinned := { name := "ybulkwgg", sum := "92d7f95d5ffde4fd955923c3250aa3b9b1d7683c4e65ad4e8ef4b5593f2d2257", checked := Yba.checked }
namespace Rows
def none {H : Type} : Left H := { results := [], args := [] }

/-- 'quiver.LawS1124AFirstNonDigit': WHATEVER THE INPUT: true; the input reads as it did. -/
def lawS1124AFirstNonDigitSpec : ChangeSpec := { name := "lawS1124AFirstNonDigit", fn := fun _ => fun
  | [d1, d2] => { results := [.lit (.bool true)], args := [d1, d2] }
  | _ => none }
def lawS1124AFirstNonDigitRow : OpenClaim := { program := "ybulkwgg", sum := "92d7f95d5ffde4fd955923c3250aa3b9b1d7683c4e65ad4e8ef4b5593f2d2257", func := "example.com/quiver/quiver.LawS1124AFirstNonDigit", spec := "lawS1124AFirstNonDigit", apart := false }
def LawS1124AFirstNonDigitSaid : Prop := lawS1124AFirstNonDigitRow.holds Yba.pinned (OpenSpec.ofChange lawS1124AFirstNonDigitSpec)

/-- ITS FALSE NEIGHBOUR: 'it returns false'. Refute it at one input. -/
def lawS1124AFirstNonDigitWrong : ChangeSpec := { name := "lawS1124AFirstNonDigit", fn := fun _ => fun
  | [d1, d2] => { results := [.lit (.bool false)], args := [d1, d2] }
  | _ => none }
def LawS1124AFirstNonDigitWrongFalsely : Prop := lawS1124AFirstNonDigitRow.holds Yba.pinned (OpenSpec.ofChange lawS1124AFirstNonDigitWrong)

/-- 'quiver.LawS1124ADigitPrefix': WHATEVER THE INPUT: true; the input reads as it did. -/
def lawS1124ADigitPrefixSpec : ChangeSpec := { name := "lawS1124ADigitPrefix", fn := fun _ => fun
  | [d1, d2] => { results := [.lit (.bool true)], args := [d1, d2] }
  | _ => none }
def lawS1124ADigitPrefixRow : OpenClaim := { program := "ybulkwgg", sum := "92d7f95d5ffde4fd955923c3250aa3b9b1d7683c4e65ad4e8ef4b5593f2d2257", func := "example.com/quiver/quiver.LawS1124ADigitPrefix", spec := "lawS1124ADigitPrefix", apart := false }
def LawS1124ADigitPrefixSaid : Prop := lawS1124ADigitPrefixRow.holds Yba.pinned (OpenSpec.ofChange lawS1124ADigitPrefixSpec)

/-- ITS FALSE NEIGHBOUR: 'it returns false'. Refute it at one input. -/
def lawS1124ADigitPrefixWrong : ChangeSpec := { name := "lawS1124ADigitPrefix", fn := fun _ => fun
  | [d1, d2] => { results := [.lit (.bool false)], args := [d1, d2] }
  | _ => none }
def LawS1124ADigitPrefixWrongFalsely : Prop := lawS1124ADigitPrefixRow.holds Yba.pinned (OpenSpec.ofChange lawS1124ADigitPrefixWrong)

/-- 'quiver.LawS1124BString': WHATEVER THE INPUT: true; the input reads as it did. -/
def lawS1124BStringSpec : ChangeSpec := { name := "lawS1124BString", fn := fun _ => fun
  | [d] => { results := [.lit (.bool true)], args := [d] }
  | _ => none }
def lawS1124BStringRow : OpenClaim := { program := "ybulkwgg", sum := "92d7f95d5ffde4fd955923c3250aa3b9b1d7683c4e65ad4e8ef4b5593f2d2257", func := "example.com/quiver/quiver.LawS1124BString", spec := "lawS1124BString", apart := false }
def LawS1124BStringSaid : Prop := lawS1124BStringRow.holds Yba.pinned (OpenSpec.ofChange lawS1124BStringSpec)

/-- ITS FALSE NEIGHBOUR: 'it returns false'. Refute it at one input. -/
def lawS1124BStringWrong : ChangeSpec := { name := "lawS1124BString", fn := fun _ => fun
  | [d] => { results := [.lit (.bool false)], args := [d] }
  | _ => none }
def LawS1124BStringWrongFalsely : Prop := lawS1124BStringRow.holds Yba.pinned (OpenSpec.ofChange lawS1124BStringWrong)

/-- 'quiver.LawS1124BBytes': WHATEVER THE INPUT: true; the input reads as it did. -/
def lawS1124BBytesSpec : ChangeSpec := { name := "lawS1124BBytes", fn := fun _ => fun
  | [d] => { results := [.lit (.bool true)], args := [d] }
  | _ => none }
def lawS1124BBytesRow : OpenClaim := { program := "ybulkwgg", sum := "92d7f95d5ffde4fd955923c3250aa3b9b1d7683c4e65ad4e8ef4b5593f2d2257", func := "example.com/quiver/quiver.LawS1124BBytes", spec := "lawS1124BBytes", apart := false }
def LawS1124BBytesSaid : Prop := lawS1124BBytesRow.holds Yba.pinned (OpenSpec.ofChange lawS1124BBytesSpec)

/-- ITS FALSE NEIGHBOUR: 'it returns false'. Refute it at one input. -/
def lawS1124BBytesWrong : ChangeSpec := { name := "lawS1124BBytes", fn := fun _ => fun
  | [d] => { results := [.lit (.bool false)], args := [d] }
  | _ => none }
def LawS1124BBytesWrongFalsely : Prop := lawS1124BBytesRow.holds Yba.pinned (OpenSpec.ofChange lawS1124BBytesWrong)

/-- 'quiver.LawS1124BPicked': WHATEVER THE INPUT: true; the input reads as it did. -/
def lawS1124BPickedSpec : ChangeSpec := { name := "lawS1124BPicked", fn := fun _ => fun
  | [d] => { results := [.lit (.bool true)], args := [d] }
  | _ => none }
def lawS1124BPickedRow : OpenClaim := { program := "ybulkwgg", sum := "92d7f95d5ffde4fd955923c3250aa3b9b1d7683c4e65ad4e8ef4b5593f2d2257", func := "example.com/quiver/quiver.LawS1124BPicked", spec := "lawS1124BPicked", apart := false }
def LawS1124BPickedSaid : Prop := lawS1124BPickedRow.holds Yba.pinned (OpenSpec.ofChange lawS1124BPickedSpec)

/-- ITS FALSE NEIGHBOUR: 'it returns false'. Refute it at one input. -/
def lawS1124BPickedWrong : ChangeSpec := { name := "lawS1124BPicked", fn := fun _ => fun
  | [d] => { results := [.lit (.bool false)], args := [d] }
  | _ => none }
def LawS1124BPickedWrongFalsely : Prop := lawS1124BPickedRow.holds Yba.pinned (OpenSpec.ofChange lawS1124BPickedWrong)

end Rows
end Go.Proofs.Ybulkwgg
