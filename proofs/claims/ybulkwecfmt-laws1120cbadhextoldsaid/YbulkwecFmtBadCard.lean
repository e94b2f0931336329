/- LawS1120CBadHex: the told and tied card. -/
import Derived.Test.YbulkwecFmtBadWalk
import Derived.Test.YbulkwecFmtLaid
import Derived.Test.YbulkwecFmtTie
import Derived.ShutString
import Derived.ChangeOld
import Derived.Stop.JoinedAt
import Derived.Stop.JoinedTold
import Derived.Deep.DeepWitnessRef
import Derived.SevenTiedAt
namespace Go.Proofs.YbulkwecFmt
open Go.ChangeShapes Go.WideShapes Go.ChangeAt Go.RowKit
open Go.Extern.Stop Go.Stop Go.Extern
set_option linter.unusedVariables false

theorem laidOutP : laidOutB Ybaf.pinned.checked.prog = true := by kernel_rfl
theorem stopsAre : Ybaf.pinned.checked.prog.stops = ["fmt.errorf"] := by kernel_rfl
theorem stopKnobs : Ybaf.pinned.checked.prog.stopKnobs = [] := by kernel_rfl
theorem quiet (os : Os) : Stop.quiet Ybaf.pinned.checked.prog os := by
  intro k hk
  rw [stopKnobs] at hk
  cases hk

theorem bad_all (a : Option Addr) (len cap : Nat) (zs : List Int) (pad mask pos c : Int) (w : World) (h0 : IsRow w a len cap zs) (hE : 0 < w.heap.size ∧ ∃ ev, w.cell? ⟨0, 0, none⟩ = some ev)
    (w1 : (Lit.int .u8 pad).wf = true) (w2 : (Lit.int .u64 mask).wf = true) (w3 : (Lit.int .u32 pos).wf = true) (w4 : (Lit.int .u8 c).wf = true) :
    Calls Ybaf.prog 4 #[.slice a len cap, .int .u8 pad, .int .u64 mask, .int .u32 pos, .int .u8 c] w fun e w' => e = .returned (.bool true) ∧ Below w.heap.size w w' := by
  obtain ⟨hs, ev, hev⟩ := hE
  obtain ⟨D, rfl, hD⟩ := isB_of h0
  by_cases hl : D.length ≤ 4096
  · have b1 := bounds_u8 w1
    have b2 := bounds_u64 w2
    have b3 := bounds_u32 w3
    have b4 := bounds_u8 w4
    exact bad_walk a cap D pad mask pos c w ev hev hs hD hl b1.1 b1.2 b2.1 b2.2 b3.1 b3.2 b4.1 b4.2
  · exact bad_long a D.length cap pad mask pos c w (by omega)

set_option maxRecDepth 100000 in
theorem bad_lifted (os : Os) (started : os.Started) (H : Type) (enc : TypeId × Value → H) :
    ReturnsInTold none {} Ybaf.checked os 4 .any Input.okWide ((OpenSpec.ofChange Rows.lawS1120CBadHexSpec).preRow enc Ybaf.prog Ybaf.f4 [] false laid1) (fun F => ((OpenSpec.ofChange Rows.lawS1120CBadHexSpec).at F).post enc Ybaf.prog Ybaf.f4 false true false false) (aloneAtReturn Ybaf.prog) nothingAlways := by
  refine returnsInTold_of_row (C := Ybaf.checked) (s := OpenSpec.ofChange Rows.lawS1120CBadHexSpec) (by kernel_rfl) own started (by kernel_rfl) Ybaf.func4
    (OpenSpec.witness_stopped_atRef (enc := enc) (C := Ybaf.checked) false (World.doorLaid Ybaf.prog 28 os) #[.slice none 0 0, .int .u8 0, .int .u64 0, .int .u32 0, .int .u8 0] rfl (by kernel_rfl) (by kernel_rfl) (by kernel_rfl) (OpenSpec.preRow_of_B rfl 8 (by kernel_rfl) (by kernel_rfl) (door_met os _))) ?_
  intro F W base args ds gs before _ hF hval0 hW _ _ _ hL _
  have hval : ∀ (j : Nat) t v, Ybaf.f4.params[j]? = some t → args[j]? = some v → Value.okWide Ybaf.prog W .any base t v := hval0
  have hW' := hW
  obtain ⟨p, q, hA0, hV, rfl, hfz, hnd⟩ := hW
  have hA : DataW.TrodAll enc Ybaf.prog W 0 (fun _ => true) true Ybaf.f4.params.toList args.toList ds p := hA0
  rw [Ybaf.params4] at hA hval
  obtain ⟨v0, vs0, d0, ds0, p0, q0, hargs, rfl, rfl, h0, r0⟩ := trodAll_cons hA
  obtain ⟨v1, vs1, d1, ds1, p1, q1, rfl, rfl, rfl, h1, r1⟩ := trodAll_cons r0
  obtain ⟨v2, vs2, d2, ds2, p2, q2, rfl, rfl, rfl, h2, r2⟩ := trodAll_cons r1
  obtain ⟨v3, vs3, d3, ds3, p3, q3, rfl, rfl, rfl, h3, r3⟩ := trodAll_cons r2
  obtain ⟨v4, vs4, d4, ds4, p4, q4, rfl, rfl, rfl, h4, r4⟩ := trodAll_cons r3
  obtain ⟨rfl, rfl, rfl⟩ := trodAll_nil r4
  obtain rfl : args = #[v0, v1, v2, v3, v4] := by cases args; simp_all
  obtain ⟨rfl, rfl⟩ := trodVars_none hV
  obtain ⟨a0, len0, cap0, rfl⟩ := okWide_slice Ybaf.underlying22 (hval 0 22 v0 rfl rfl)
  have k0 := h0
  have lt0 : ∀ x ∈ p0, x.block < W.heap.size := by obtain ⟨m, hm⟩ := k0; exact DataW.trod_lt m _ _ _ hm
  obtain ⟨z0, w0⟩ : ∃ zs, IsRow W a0 len0 cap0 zs := by
    obtain ⟨fuel, hf⟩ := h0
    rcases open_ints Ybaf.underlying22 Ybaf.underlying5 (by kernel_rfl) hf with ⟨hcs, _⟩ | ⟨x, l, c, zs, hcs, _, hl, hm, hz, _, hcell, hwz⟩
    · simp [Value.cells] at hcs
      obtain ⟨rfl, rfl, rfl⟩ := hcs
      exact ⟨[], .inl ⟨rfl, rfl, rfl, rfl⟩⟩
    · simp [Value.cells] at hcs
      obtain ⟨rfl, rfl, rfl⟩ := hcs
      exact ⟨zs, .inr ⟨_, rfl, hl, hm, by simpa using hz, hcell, hwz⟩⟩
  obtain ⟨a1, rfl, rfl, rfl, w1⟩ := open_int Ybaf.underlying5 (hval 1 5 v1 rfl rfl) h1
  obtain ⟨a2, rfl, rfl, rfl, w2⟩ := open_int Ybaf.underlying23 (hval 2 23 v2 rfl rfl) h2
  obtain ⟨a3, rfl, rfl, rfl, w3⟩ := open_int Ybaf.underlying34 (hval 3 34 v3 rfl rfl) h3
  obtain ⟨a4, rfl, rfl, rfl, w4⟩ := open_int Ybaf.underlying5 (hval 4 5 v4 rfl rfl) h4
  clear hA0 hval0
  refine (bad_all a0 len0 cap0 z0 a1 a2 a3 a4 W w0 (err_cell hL) w1 w2 w3 w4).mono fun e W' ⟨he, bel⟩ => ?_
  subst he
  exact ⟨_, rfl, _, _, _, [], _, [], hW', trodAll_mk1 (shut_bool Ybaf.underlying4 _), (trodAll_cons_mk (Below.trod laidOut (by kernel_rfl) (of_decide_eq_true (by kernel_rfl)) k0 bel lt0) (trodAll_cons_mk (shut_int Ybaf.underlying5 w1) (trodAll_cons_mk (shut_int Ybaf.underlying23 w2) (trodAll_cons_mk (shut_int Ybaf.underlying34 w3) (trodAll_cons_mk (shut_int Ybaf.underlying5 w4) trodAll_mk0))))), rfl, bel.frame _, fun h => by cases h⟩

theorem bad_card : Rows.LawS1120CBadHexToldSaid :=
  Claim7.holds_of_told_tied_any_at .later 4 Ybaf.f4 "fmt.errorf" [] [] (true, "fc9be63ceb3fee945fc110944bcae7a33d9ea8528e359c2fe77bb1e55fcd7ce3") false false [.sentinel] true (by kernel_rfl) rfl rfl rfl laidOutP (by kernel_rfl) rfl ⟨rfl, rfl, rfl, rfl, rfl, rfl, rfl⟩ rfl rfl (by kernel_rfl) (by kernel_rfl) Ybaf.func4 (by kernel_rfl)
    (of_decide_eq_true (by kernel_rfl)) (of_decide_eq_true (by kernel_rfl)) stopsAre.symm rfl stopKnobs.symm (by kernel_rfl)
    (by kernel_rfl) (by kernel_rfl) (by kernel_rfl) (by kernel_rfl) (by kernel_rfl) (by kernel_rfl) (by kernel_rfl) (by kernel_rfl) (by kernel_rfl) rfl (by kernel_rfl) rfl rfl
    rfl rfl
    rfl (by kernel_rfl) (by kernel_rfl) (by kernel_rfl) (by decide) (by kernel_rfl) lawS1120CBadHex_row_tie
    (OpenClaim.moreEntering_of (by kernel_rfl) (by kernel_rfl) (by kernel_rfl) (by kernel_rfl) (by kernel_rfl) (by kernel_rfl) (by kernel_rfl) (by kernel_rfl) (by kernel_rfl) (by kernel_rfl))
    ⟨_, WideRow.started_initial, quiet _⟩
    (fun os started _ H enc _ => bad_lifted os started H enc)
#print axioms bad_card
end Go.Proofs.YbulkwecFmt
