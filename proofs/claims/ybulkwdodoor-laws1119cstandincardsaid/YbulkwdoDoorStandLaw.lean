/- The walk of LawS1119CStandIn: three ways, by sel mod 3. -/
import Derived.Test.YbulkwdoDoorStandWalks
namespace Go.Proofs.YbulkwdoDoor
open Go.RowKit

set_option maxHeartbeats 400000 in
theorem law_stand0 (s x : Int) (w : World) (s0 : 0 ≤ s) (s1 : s ≤ 255) (h0 : 0 ≤ x) (h1 : x ≤ 255) (hs : 0 < w.heap.size) (hm : (s % 3 == 0) = true)
    (hf : ∀ k : Nat, k < 26 → w.cell? ⟨0, k * 3 + 1, none⟩ = some (.int .u8 (flagAt k))) :
    Calls Ybad.prog 4 #[.int .u8 s, .int .u8 x] w fun e w' => e = .returned (.bool true) ∧ Below w.heap.size w w' := by
  have hx0 : 0 ≤ x % 26 := by omega
  have hx1 : x % 26 < 26 := by omega
  have Hf : Hid (∀ k : Nat, k < 26 → w.cell? ⟨0, k * 3 + 1, none⟩ = some (.int .u8 (flagAt k))) := hf
  clear hf
  have hw := class_want_at (x % 26) hx0 hx1
  go_enter Ybad.func4, Ybad.ntmps4
  go_wp2_with (first | (go_at_call 5; refine (kind_any _ _ h0 h1).mono ?_; rintro e w1 ⟨rfl, hw1⟩; subst hw1) | (go_at_call 7; refine (want_any (x % 26) _ hx0 hx1).mono ?_; rintro e w1 ⟨rfl, hw1⟩; subst hw1))
  refine (class_stand_basic _ (w1.heap.size + 1) (x % 26) (flagAt (x % 26)) _ hx0 hx1 (by omega) hs ?_ ?_ ?_ ?_ ?_).mono ?_
  · simp
  · simp
  · simp
  · simp
  · rw [World.cell?_alloc_lt _ _ _ (by simp), World.cell?_alloc_lt _ _ _ hs, Hf.out _ (by omega)]
    rw [show (((x % 26).toNat : Nat) : Int) = x % 26 from by omega]
  rintro e w2 ⟨rfl, hw2⟩
  subst hw2
  go_wp2_with fail
  go_ret
  exact ⟨rfl, ((Below.refl _ _).alloc (Nat.le_refl _) _).alloc (by simp) _⟩

set_option maxHeartbeats 400000 in
theorem law_stand1 (s x : Int) (w : World) (s0 : 0 ≤ s) (s1 : s ≤ 255) (h0 : 0 ≤ x) (h1 : x ≤ 255) (hm0 : (s % 3 == 0) = false) (hm : (s % 3 == 1) = true) :
    Calls Ybad.prog 4 #[.int .u8 s, .int .u8 x] w fun e w' => e = .returned (.bool true) ∧ Below w.heap.size w w' := by
  have hx0 : 0 ≤ x % 26 := by omega
  have hx1 : x % 26 < 26 := by omega
  go_enter Ybad.func4, Ybad.ntmps4
  go_wp2_with (go_at_call 5; refine (kind_any _ _ h0 h1).mono ?_; rintro e w1 ⟨rfl, hw1⟩; subst hw1)
  refine (class_stand_none _ _ _ ?_ ?_ ?_ (assert_union ⟨w1.heap.size + 1, 0, none⟩)).mono ?_
  · simp
  · simp
  · simp
  rintro e w2 ⟨rfl, hw2⟩
  subst hw2
  go_wp2_with fail
  go_ret
  exact ⟨rfl, ((Below.refl _ _).alloc (Nat.le_refl _) _).alloc (by simp) _⟩

set_option maxHeartbeats 400000 in
theorem law_stand2 (s x : Int) (w : World) (s0 : 0 ≤ s) (s1 : s ≤ 255) (h0 : 0 ≤ x) (h1 : x ≤ 255) (hm0 : (s % 3 == 0) = false) (hm : (s % 3 == 1) = false) :
    Calls Ybad.prog 4 #[.int .u8 s, .int .u8 x] w fun e w' => e = .returned (.bool true) ∧ Below w.heap.size w w' := by
  have hx0 : 0 ≤ x % 26 := by omega
  have hx1 : x % 26 < 26 := by omega
  go_enter Ybad.func4, Ybad.ntmps4
  go_wp2_with (go_at_call 5; refine (kind_any _ _ h0 h1).mono ?_; rintro e w1 ⟨rfl, hw1⟩; subst hw1)
  refine (class_stand_none _ _ _ ?_ ?_ ?_ assert_nil).mono ?_
  · simp
  · simp
  · simp
  rintro e w2 ⟨rfl, hw2⟩
  subst hw2
  go_wp2_with fail
  go_ret
  exact ⟨rfl, (Below.refl _ _).alloc (Nat.le_refl _) _⟩

theorem law_stand (s x : Int) (w : World) (s0 : 0 ≤ s) (s1 : s ≤ 255) (h0 : 0 ≤ x) (h1 : x ≤ 255) (hs : 0 < w.heap.size)
    (hf : ∀ k : Nat, k < 26 → w.cell? ⟨0, k * 3 + 1, none⟩ = some (.int .u8 (flagAt k))) :
    Calls Ybad.prog 4 #[.int .u8 s, .int .u8 x] w fun e w' => e = .returned (.bool true) ∧ Below w.heap.size w w' := by
  cases hm0 : (s % 3 == 0) with
  | true => exact law_stand0 s x w s0 s1 h0 h1 hs hm0 hf
  | false =>
    cases hm : (s % 3 == 1) with
    | true => exact law_stand1 s x w s0 s1 h0 h1 hm0 hm
    | false => exact law_stand2 s x w s0 s1 h0 h1 hm0 hm
end Go.Proofs.YbulkwdoDoor
