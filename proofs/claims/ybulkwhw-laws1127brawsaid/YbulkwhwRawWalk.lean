/- The walk of LawS1127BRaw. -/
import Derived.Test.YbulkwhwModelFn
namespace Go.Proofs.Ybulkwhw
open Go.RowKit
set_option linter.unusedVariables false

set_option maxHeartbeats 400000 in
theorem raw_long (s : ByteArray) (k : Int) (w : World) (hm : s.size ≤ maxLen) (h : 4096 < (s.size : Int)) :
    Calls Yba.prog 6 #[.string s, .int .u16 k] w fun e w' => e = .returned (.bool true) ∧ Grown w w' := by
  unfold maxLen at hm
  go_enter Yba.func6, Yba.ntmps6
  go_wp2
  go_ret
  exact ⟨rfl, Grown.refl _⟩

set_option maxHeartbeats 400000 in
theorem raw_walk (s : ByteArray) (k : Int) (w : World) (hs : s.size ≤ 4096) (k0 : 0 ≤ k) (k1 : k ≤ 65535) :
    Calls Yba.prog 6 #[.string s, .int .u16 k] w fun e w' => e = .returned (.bool true) ∧ Grown w w' := by
  have e1 : 0 ≤ k % ((s.size : Int) + 1) := Int.emod_nonneg _ (by omega)
  have e2 : k % ((s.size : Int) + 1) < (s.size : Int) + 1 := Int.emod_lt_of_pos _ (by omega)
  obtain ⟨i, hi⟩ : ∃ i : Nat, k % ((s.size : Int) + 1) = (i : Int) := ⟨(k % ((s.size : Int) + 1)).toNat, by omega⟩
  have his : i ≤ s.size := by omega
  clear e1 e2
  obtain ⟨j, hst⟩ := start_ex s i
  have Hst : Hid (Start s i j) := hst
  clear hst
  obtain ⟨R, hR⟩ : ∃ R, R = find (s.data.toList.drop j) j false := ⟨_, rfl⟩
  have HR : Hid (find (s.data.toList.drop j) j false = R) := hR.symm
  clear hR
  have hrr : (R == R) = true := by simp
  go_enter Yba.func6, Yba.ntmps6
  go_wp2_with fail
  refine (setEnd_any s i j _ hs his Hst.out).mono ?_
  rintro e w1 ⟨rfl, hw1⟩
  subst hw1
  rw [HR.out]
  go_wp2_with fail
  refine (model_any s i j _ hs his Hst.out).mono ?_
  rintro e w2 ⟨rfl, hw2⟩
  subst hw2
  rw [HR.out]
  go_wp2
  go_ret
  exact ⟨rfl, Grown.refl _⟩
end Go.Proofs.Ybulkwhw
