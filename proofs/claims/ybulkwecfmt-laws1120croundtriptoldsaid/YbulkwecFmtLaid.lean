/- What the listed variable gives the walks; the witness's heap; the slice of bytes that came in. -/
import Derived.Test.YbulkwecFmtKey
import Derived.Test.YbulkwecFmtCards
import Derived.ProofKit
import Derived.LaidMore
import Derived.OpenShut
import Derived.Stop.Joined
namespace Go.Proofs.YbulkwecFmt
open Go.ChangeShapes Go.WideShapes Go.ChangeAt Go.RowKit
set_option linter.unusedVariables false

theorem own : ownKnob Ybaf.prog.godebug = none := by kernel_rfl
theorem laidOut : laidOutB Ybaf.prog = true := by kernel_rfl
def errName : String := (Rows.lawS1120CBadHexRow.named).headD ""
theorem gErr : Ybaf.prog.globalNamed errName = some 0 := by kernel_rfl
theorem tErr : (Ybaf.prog.globals[0]?).map (·.type) = some 29 := by kernel_rfl
def laid1 : List (String × DataW Unit) := [(errName, Rows.laid_encoding_hex_ErrLength)]

theorem err_cell {W : World} (h : laidMetH Ybaf.prog laid1 W) : 0 < W.heap.size ∧ ∃ ev, W.cell? ⟨0, 0, none⟩ = some ev := by
  rw [MakeChecks.laidMetH_plain _ _ _ (by kernel_rfl)] at h
  obtain ⟨ps, ⟨g, t, cs, fuel, p, q, hg, ht, hv, hd, _, _⟩, _, _⟩ := h
  obtain rfl := Option.some.inj (gErr.symm.trans hg)
  obtain rfl := Option.some.inj (tErr.symm.trans ht)
  obtain ⟨ev, hev⟩ : ∃ ev, cs[0]? = some ev := by
    obtain ⟨l⟩ := cs
    cases l with
    | nil =>
      exfalso
      cases fuel with
      | zero => simp [DataW.trod] at hd
      | succ m => simp [DataW.trod, Ybaf.underlying29] at hd
    | cons v l => exact ⟨v, by simp⟩
  have hc : W.cell? ⟨0, 0, none⟩ = some ev := (World.var?_cell hg hv 0).trans hev
  exact ⟨cell_block_lt hc, ev, hc⟩

theorem door_met (os : Os) (args : Array Value) : laidMetH Ybaf.prog laid1 ((World.doorLaid Ybaf.prog 28 os).forCall (fun _ _ => 0) ⟨#[], args, []⟩).memory :=
  laidMetH_of_parts3 (fuel := 8) (laidMet_of_run' 8 (by kernel_rfl) (by kernel_rfl)) (by kernel_rfl) (by kernel_rfl)

/-- What the kit tells of a slice of bytes that came in. -/
def IsRow (w : World) (a : Option Addr) (len cap : Nat) (zs : List Int) : Prop :=
  (a = none ∧ len = 0 ∧ cap = 0 ∧ zs = []) ∨
  ∃ x, a = some x ∧ len ≤ cap ∧ cap ≤ maxLen ∧ zs.length = cap ∧ (∀ i, i < zs.length → w.cell? (x.add i) = some (.int .u8 (zs.getD i 0))) ∧ ∀ n ∈ zs, (Lit.int .u8 n).wf = true

theorem isB_of {w : World} {a : Option Addr} {len cap : Nat} {zs : List Int} (h : IsRow w a len cap zs) : ∃ D : List UInt8, D.length = len ∧ IsB w a cap D := by
  rcases h with ⟨rfl, rfl, rfl, rfl⟩ | ⟨x, rfl, hl, hm, hz, hc, hw⟩
  · exact ⟨[], rfl, fun _ => ⟨rfl, rfl⟩, fun x hx => by cases hx⟩
  · refine ⟨(zs.take len).map (fun z => UInt8.ofNat z.toNat), ?_, (fun h => by cases h), ?_⟩
    · simp; omega
    intro y hy j u hj
    obtain rfl := Option.some.inj hy
    simp only [List.map_map, List.getElem?_map, Option.map_eq_some_iff] at hj
    obtain ⟨z, hz1, rfl⟩ := hj
    rw [List.getElem?_take] at hz1
    split at hz1
    · rename_i hjl
      obtain ⟨hjz, ez⟩ := List.getElem?_eq_some_iff.1 hz1
      have hb := bounds_u8 (hw z (by rw [← ez]; exact List.getElem_mem hjz))
      rw [hc j hjz, List.getD_eq_getElem?_getD, List.getElem?_eq_getElem hjz, ez]
      simp only [Function.comp, Bv, Option.getD_some, UInt8.toNat_ofNat']
      congr 2
      omega
    · cases hz1
end Go.Proofs.YbulkwecFmt
