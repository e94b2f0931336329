/- zzs1120ceq at two slices of the same bytes. -/
import Derived.Test.YbulkwecFmtKey
import Derived.RegionTactic
namespace Go.Proofs.YbulkwecFmt
open Go.RowKit
set_option linter.unusedVariables false
set_option maxHeartbeats 400000 in
theorem eq_any (g1 c1 g2 c2 : Nat) (K : List UInt8) (w : World) (hc1 : ∀ j (hj : j < K.length), w.cell? ⟨g1, j, none⟩ = some (Bv K[j])) (hc2 : ∀ j (hj : j < K.length), w.cell? ⟨g2, j, none⟩ = some (Bv K[j]))
    (hlen : K.length ≤ 8192) :
    Calls Ybaf.prog 8 #[.slice (some ⟨g1, 0, none⟩) K.length c1, .slice (some ⟨g2, 0, none⟩) K.length c2] w fun e w' => e = .returned (.bool true) ∧ Below w.heap.size w w' := by
  have hE : ((K.length : Int) != (K.length : Int)) = false := by simp
  go_enter Ybaf.func8, Ybaf.ntmps8
  go_wp2_with fail
  go_loopw [5] (fun i wr => ∃ k : Nat, k ≤ K.length ∧ i = .int .i64 k ∧ Below w.heap.size w wr) (fun i _ => K.length - (intOf i).toNat)
  case atStart => exact ⟨0, Nat.zero_le _, rfl, Below.refl _ _⟩
  case round =>
    obtain ⟨k, hk, rfl, hb⟩ := hrel
    by_cases hlt : k < K.length
    · have hx1 : wr.cell? ⟨g1, k, none⟩ = some (Bv K[k]) := (hb.cell (cell_block_lt (hc1 k hlt))).trans (hc1 k hlt)
      have hx2 : wr.cell? ⟨g2, k, none⟩ = some (Bv K[k]) := (hb.cell (cell_block_lt (hc2 k hlt))).trans (hc2 k hlt)
      clear hc1 hc2
      obtain ⟨x, hx⟩ : ∃ x : Int, (K[k].toNat : Int) = x := ⟨_, rfl⟩
      rw [show Bv K[k] = Value.int .u8 x from by rw [← hx]] at hx1 hx2
      clear hx
      have hlt' : (k : Int) < (K.length : Int) := by omega
      go_wp2_with fail
      go_region
      all_goals
        go_wp2
        go_roundw
        case rel => exact ⟨k + 1, by omega, by go_num, hb.drew⟩
        case measure => simp [intOf]; omega
    · clear hc1 hc2
      go_wp2
      go_ret
      exact ⟨rfl, hb⟩
end Go.Proofs.YbulkwecFmt
