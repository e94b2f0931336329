/-
  No cell of these rows narrows 'for every input' (looked for: loops, veiled, ifaces, maps, wideKeys, modest, calm, conditions, laid).
  DERIVED. THE GIVEN ROWS OF THIS SEAT. 4 by the template 'for every input the law returns true; each argument reads behind the call as it read before'; 0 by the template 'total and deterministic' (their statements: YbulkwhwTotals.lean).
  GIVEN WITH THE SEED: the statements are not yours to turn. If you find one false, say at which input.
  Laid BY PROGRAM, IN A SANDBOX (cutbox-rows.mjs): the forced cells as the released guide's own fill.sh prints them over the translation 961206eb39da624d… (all of the seat's roots in one cut). By AI agents, Wed Nov 11 2026. No macro, syntax, notation, axiom, sorry.
-/
import Derived.Test.YbulkwhwChecked
import GoSem.Claim
import GoSem.ClaimJoined
import GoSem.ClaimMapViews
import Derived.JoinedTies
import Derived.KernelRfl
namespace Go.Proofs.Ybulkwhw
/- THE CELL 'sum', in the pinned program and in every row, IS THE sha256 OF THE DUMP (.gsa) THAT YbulkwhwProg.lean LOADS. Nothing in Lean hashes anything: it is a label: what it is worth is what the hold of that sum in a sandbox is worth. -/
noncomputable def Yba.pinned : Pinned := { name := "ybulkwhw", sum := "961206eb39da624d0b4c8070ece3f2fb27dc556baa0ec86c7c1d292559712dce", checked := Yba.checked }
namespace Rows
def none {H : Type} : Left H := { results := [], args := [] }

/-- 'splice.LawS1127ABuilt': WHATEVER THE INPUT: true; the input reads as it did. -/
def lawS1127ABuiltSpec : ChangeSpec := { name := "lawS1127ABuilt", fn := fun _ => fun
  | [d1, d2] => { results := [.lit (.bool true)], args := [d1, d2] }
  | _ => none }
def lawS1127ABuiltRow : OpenClaim := { program := "ybulkwhw", sum := "961206eb39da624d0b4c8070ece3f2fb27dc556baa0ec86c7c1d292559712dce", func := "example.com/splice/splice.LawS1127ABuilt", spec := "lawS1127ABuilt", inPlace := ["internal/abi.NoEscape", "internal/bytealg.IndexByteString"], apart := false }
def LawS1127ABuiltSaid : Prop := lawS1127ABuiltRow.holds Yba.pinned (OpenSpec.ofChange lawS1127ABuiltSpec)

/-- ITS FALSE NEIGHBOUR: 'it returns false'. Refute it at one input. -/
def lawS1127ABuiltWrong : ChangeSpec := { name := "lawS1127ABuilt", fn := fun _ => fun
  | [d1, d2] => { results := [.lit (.bool false)], args := [d1, d2] }
  | _ => none }
def LawS1127ABuiltWrongFalsely : Prop := lawS1127ABuiltRow.holds Yba.pinned (OpenSpec.ofChange lawS1127ABuiltWrong)

/-- 'splice.LawS1127ARaw': WHATEVER THE INPUT: true; the input reads as it did. -/
def lawS1127ARawSpec : ChangeSpec := { name := "lawS1127ARaw", fn := fun _ => fun
  | [d] => { results := [.lit (.bool true)], args := [d] }
  | _ => none }
def lawS1127ARawRow : OpenClaim := { program := "ybulkwhw", sum := "961206eb39da624d0b4c8070ece3f2fb27dc556baa0ec86c7c1d292559712dce", func := "example.com/splice/splice.LawS1127ARaw", spec := "lawS1127ARaw", inPlace := ["internal/abi.NoEscape", "internal/bytealg.IndexByteString"], apart := false }
def LawS1127ARawSaid : Prop := lawS1127ARawRow.holds Yba.pinned (OpenSpec.ofChange lawS1127ARawSpec)

/-- ITS FALSE NEIGHBOUR: 'it returns false'. Refute it at one input. -/
def lawS1127ARawWrong : ChangeSpec := { name := "lawS1127ARaw", fn := fun _ => fun
  | [d] => { results := [.lit (.bool false)], args := [d] }
  | _ => none }
def LawS1127ARawWrongFalsely : Prop := lawS1127ARawRow.holds Yba.pinned (OpenSpec.ofChange lawS1127ARawWrong)

/-- 'splice.LawS1127BModel': WHATEVER THE INPUT: true; the input reads as it did. -/
def lawS1127BModelSpec : ChangeSpec := { name := "lawS1127BModel", fn := fun _ => fun
  | [d1, d2] => { results := [.lit (.bool true)], args := [d1, d2] }
  | _ => none }
def lawS1127BModelRow : OpenClaim := { program := "ybulkwhw", sum := "961206eb39da624d0b4c8070ece3f2fb27dc556baa0ec86c7c1d292559712dce", func := "example.com/splice/splice.LawS1127BModel", spec := "lawS1127BModel", apart := false }
def LawS1127BModelSaid : Prop := lawS1127BModelRow.holds Yba.pinned (OpenSpec.ofChange lawS1127BModelSpec)

/-- ITS FALSE NEIGHBOUR: 'it returns false'. Refute it at one input. -/
def lawS1127BModelWrong : ChangeSpec := { name := "lawS1127BModel", fn := fun _ => fun
  | [d1, d2] => { results := [.lit (.bool false)], args := [d1, d2] }
  | _ => none }
def LawS1127BModelWrongFalsely : Prop := lawS1127BModelRow.holds Yba.pinned (OpenSpec.ofChange lawS1127BModelWrong)

/-- 'splice.LawS1127BRaw': WHATEVER THE INPUT: true; the input reads as it did. -/
def lawS1127BRawSpec : ChangeSpec := { name := "lawS1127BRaw", fn := fun _ => fun
  | [d1, d2] => { results := [.lit (.bool true)], args := [d1, d2] }
  | _ => none }
def lawS1127BRawRow : OpenClaim := { program := "ybulkwhw", sum := "961206eb39da624d0b4c8070ece3f2fb27dc556baa0ec86c7c1d292559712dce", func := "example.com/splice/splice.LawS1127BRaw", spec := "lawS1127BRaw", apart := false }
def LawS1127BRawSaid : Prop := lawS1127BRawRow.holds Yba.pinned (OpenSpec.ofChange lawS1127BRawSpec)

/-- ITS FALSE NEIGHBOUR: 'it returns false'. Refute it at one input. -/
def lawS1127BRawWrong : ChangeSpec := { name := "lawS1127BRaw", fn := fun _ => fun
  | [d1, d2] => { results := [.lit (.bool false)], args := [d1, d2] }
  | _ => none }
def LawS1127BRawWrongFalsely : Prop := lawS1127BRawRow.holds Yba.pinned (OpenSpec.ofChange lawS1127BRawWrong)

end Rows
end Go.Proofs.Ybulkwhw
