/- The walk of LawS1119CBasicTable. -/
import Derived.Test.YbulkwdoDoorMyWalks
namespace Go.Proofs.YbulkwdoDoor
open Go.RowKit

set_option maxHeartbeats 400000 in
theorem law_table (x : Int) (w : World) (h0 : 0 ≤ x) (h1 : x ≤ 255) (hs : 0 < w.heap.size)
    (hf : ∀ k : Nat, k < 26 → w.cell? ⟨0, k * 3 + 1, none⟩ = some (.int .u8 (flagAt k))) :
    Calls Ybad.prog 3 #[.int .u8 x] w fun e w' => e = .returned (.bool true) ∧ Below w.heap.size w w' := by
  have hx0 : 0 ≤ x % 26 := by omega
  have hx1 : x % 26 < 26 := by omega
  have Hf : Hid (∀ k : Nat, k < 26 → w.cell? ⟨0, k * 3 + 1, none⟩ = some (.int .u8 (flagAt k))) := hf
  clear hf
  have hw := class_want_at (x % 26) hx0 hx1
  go_enter Ybad.func3, Ybad.ntmps3
  go_wp2_with (go_at_call 5; refine (kind_any _ _ h0 h1).mono ?_; rintro e w1 ⟨rfl, hw1⟩; subst hw1)
  refine (class_basic _ (x % 26) (flagAt (x % 26)) _ hx0 hx1 ?_ ?_).mono ?_
  · simp
  · rw [World.cell?_alloc_lt _ _ _ hs, Hf.out _ (by omega)]
    rw [show (((x % 26).toNat : Nat) : Int) = x % 26 from by omega]
  rintro e w2 ⟨rfl, hw2⟩
  subst hw2
  go_wp2_with (go_at_call 7; refine (want_any (x % 26) _ hx0 hx1).mono ?_; rintro e w1 ⟨rfl, hw1⟩; subst hw1)
  go_ret
  exact ⟨rfl, (Below.refl _ _).alloc (Nat.le_refl _) _⟩
end Go.Proofs.YbulkwdoDoor
