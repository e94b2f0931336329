/- What the listed table gives the walks: each kind's flags, a cell each; the witness's heap meets the condition. -/
import Derived.Test.YbulkwdoDoorMyWalks
import Derived.Test.YbulkwdoDoorCards
import Derived.ProofKit
import Derived.LaidMore
import Derived.OpenShut
import Derived.OpenVars
import Derived.Deep.Strs
import Derived.Stop.Joined
namespace Go.Proofs.YbulkwdoDoor
open Go.ChangeShapes Go.WideShapes Go.ChangeAt Go.RowKit Go.Deep

theorem own : ownKnob Ybad.prog.godebug = none := by kernel_rfl
theorem laidOut : laidOutB Ybad.prog = true := by kernel_rfl
/-- The listed table's name, off the given row. -/
def kindsName : String := Rows.lawS1119CBasicTableSpec.vars.headD ""
theorem gKinds : Ybad.prog.globalNamed kindsName = some 0 := by kernel_rfl
theorem tKinds : (Ybad.prog.globals[0]?).map (·.type) = some 44 := by kernel_rfl
theorem cells24 : Ybad.prog.cellsOf 24 = 1 := by kernel_rfl
theorem cells43 : Ybad.prog.cellsOf 43 = 3 := by kernel_rfl
theorem cells44 : Ybad.prog.cellsOf 44 = 78 := by kernel_rfl

/-- The one list that both rows bear. -/
def laid1 : List (String × DataW Unit) := [(kindsName, Rows.laid_example_com_typeglass_typeglass_basicKinds)]

/-- The middle part of a table's row, as a number. -/
def midOf : DataW Unit → Int
  | .agg [_, .lit (.int _ n), _] => n
  | _ => 0
def partsOf : DataW Unit → List (DataW Unit)
  | .agg l => l
  | _ => []
theorem mids : ∀ k : Nat, k < 26 → ((partsOf Rows.laid_example_com_typeglass_typeglass_basicKinds)[k]?).map midOf = some (flagAt k) := by decide +kernel

theorem table_cell {W : World} (h : laidMetH Ybad.prog laid1 W) (k : Nat) (hk : k < 26) : W.cell? ⟨0, k * 3 + 1, none⟩ = some (.int .u8 (flagAt k)) := by
  rw [MakeChecks.laidMetH_plain _ _ _ (by kernel_rfl)] at h
  obtain ⟨ps, ⟨g, t, cs, fuel, p, q, hg, ht, hv, hd, _, _⟩, _, _⟩ := h
  obtain rfl := Option.some.inj (gKinds.symm.trans hg)
  obtain rfl := Option.some.inj (tKinds.symm.trans ht)
  obtain ⟨xs, m, _, ex, hcl, hl, hel⟩ := DataW.trod_array Ybad.underlying44 hd
  have hE := hel k hk
  rw [cells43, List.getElem?_eq_getElem (by omega)] at hE
  obtain ⟨y0, y1, y2, n, ey, hlen, hy0, hy1, hy2⟩ := trod_struct3 Ybad.underlying43 hE
  obtain ⟨z, e1, e2, _⟩ := DataW.trod_int Ybad.underlying24 hy1
  have hx := (Prod.mk.inj ex).1
  have hm := mids k hk
  rw [hx] at hm
  simp only [partsOf] at hm
  rw [List.getElem?_map, List.getElem?_eq_getElem (by omega : k < xs.length), ey, e2] at hm
  simp only [Option.map_some, midOf, Option.some.injEq] at hm
  rw [World.var?_cell hg hv, ← hm]
  have h0 : (List.take 1 (List.drop 1 (List.take 3 (List.drop (k * 3) cs.toList))))[0]? = some (.int .u8 z) := by
    rw [cells24] at e1
    rw [e1]; rfl
  simpa using h0

/-- The door's own heap meets the condition. -/
theorem door_met (os : Os) (args : Array Value) : laidMetH Ybad.prog laid1 ((World.doorLaid Ybad.prog 40 os).forCall (fun _ _ => 0) ⟨#[], args, []⟩).memory :=
  laidMetH_of_parts3 (fuel := 8) (laidMet_of_run' 8 (by kernel_rfl) (by kernel_rfl)) (by kernel_rfl) (by kernel_rfl)

theorem heap_pos {W : World} {cs : Array Value} (h : W.var? Ybad.prog kindsName = some cs) : 0 < W.heap.size := by
  unfold World.var? at h
  rw [gKinds] at h
  simp only [Option.bind_some] at h
  cases hh : W.heap[0]? with
  | none => rw [hh] at h; cases h
  | some o => exact (Array.getElem?_eq_some_iff.1 hh).1

end Go.Proofs.YbulkwdoDoor
