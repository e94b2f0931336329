/- The walk of LawS1127BModel. -/
import Derived.Test.YbulkwhwModelFn
import Derived.Test.YbulkwhwBuild
namespace Go.Proofs.Ybulkwhw
open Go.RowKit
set_option linter.unusedVariables false

/-- What is found lies behind the first place of the set. -/
theorem start_gt {s : ByteArray} {i j r : Nat} (hst : Start s i j) (hjr : j ≤ r) (hr : r < s.size) (h : (((s[r]'hr).toNat : Int) == 93) = true) : i + 1 < r := by
  rcases hst with ⟨h1, rfl⟩ | ⟨h1, _, ht⟩ | ⟨h1, _, _, ht⟩ | ⟨h1, _, _, ht⟩
  · omega
  · have := tail_le ht; omega
  · have := tail_le ht; omega
  · rcases ht with ⟨h2, rfl⟩ | ⟨h2, _, rfl⟩ | ⟨h2, h3, rfl⟩
    · omega
    · omega
    · by_cases e : i + 1 = r
      · subst e
        rw [h3] at h
        cases h
      · omega
/-- The scan's outcome, at the text's own bytes. -/
theorem found {s : ByteArray} {i j : Nat} (hst : Start s i j) : find (s.data.toList.drop j) j false = -1 ∨ ∃ r : Nat, find (s.data.toList.drop j) j false = (r : Int) ∧ i + 1 < r ∧ ∃ h : r < s.size, (((s[r]'h).toNat : Int) == 93) = true := by
  rcases find_spec s.data.toList _ j false rfl with h | ⟨r, h1, h2, h3, h4⟩
  · exact .inl h
  · have hr : r < s.size := by simpa using h3
    rw [at_list s r hr h3] at h4
    exact .inr ⟨r, h1, start_gt hst h2 hr h4, hr, h4⟩

set_option maxHeartbeats 400000 in
theorem model_long (a : Option Addr) (len cap : Nat) (k : Int) (w : World) (h : 4096 < (len : Int)) :
    Calls Yba.prog 5 #[.slice a len cap, .int .u16 k] w fun e w' => e = .returned (.bool true) ∧ Below w.heap.size w w' := by
  go_enter Yba.func5, Yba.ntmps5
  go_wp2
  go_ret
  exact ⟨rfl, Below.refl _ _⟩

set_option maxHeartbeats 800000 in
theorem model_walk (a : Option Addr) (len cap : Nat) (zs : List Int) (k : Int) (w : World) (hl : len ≤ 4096)
    (hz : ∀ k, k < len → ∃ b off, a = some ⟨b, off, none⟩ ∧ w.cell? ⟨b, off + k, none⟩ = some (.int .u8 (zs.getD k 0)) ∧ 0 ≤ zs.getD k 0 ∧ zs.getD k 0 ≤ 255) (hlc : len ≤ cap) (k0 : 0 ≤ k) (k1 : k ≤ 65535) :
    Calls Yba.prog 5 #[.slice a len cap, .int .u16 k] w fun e w' => e = .returned (.bool true) ∧ Below w.heap.size w w' := by
  have Hz : Hid (∀ k, k < len → ∃ b off, a = some ⟨b, off, none⟩ ∧ w.cell? ⟨b, off + k, none⟩ = some (.int .u8 (zs.getD k 0)) ∧ 0 ≤ zs.getD k 0 ∧ zs.getD k 0 ≤ 255) := hz
  clear hz
  go_enter Yba.func5, Yba.ntmps5
  go_wp2_with fail
  refine (build_any a len cap zs _ hl Hz.out hlc).mono ?_
  rintro e w1 ⟨s, rfl, hsl, hb⟩
  have hs : s.size ≤ 4096 := by omega
  have e1 : 0 ≤ k % ((s.size : Int) + 1) := Int.emod_nonneg _ (by omega)
  have e2 : k % ((s.size : Int) + 1) < (s.size : Int) + 1 := Int.emod_lt_of_pos _ (by omega)
  obtain ⟨i, hi⟩ : ∃ i : Nat, k % ((s.size : Int) + 1) = (i : Int) := ⟨(k % ((s.size : Int) + 1)).toNat, by omega⟩
  have his : i ≤ s.size := by omega
  clear e1 e2 hsl Hz
  obtain ⟨j, hst⟩ := start_ex s i
  have hfound := found hst
  have Hst : Hid (Start s i j) := hst
  clear hst
  obtain ⟨R, hR⟩ : ∃ R, R = find (s.data.toList.drop j) j false := ⟨_, rfl⟩
  rw [← hR] at hfound
  have HR : Hid (find (s.data.toList.drop j) j false = R) := hR.symm
  clear hR
  rcases hfound with rfl | ⟨r, rfl, hir, hr, h93⟩
  · go_wp2_with fail
    refine (setEnd_any s i j _ hs his Hst.out).mono ?_
    rintro e w2 ⟨rfl, hw2⟩
    subst hw2
    rw [HR.out]
    go_wp2_with fail
    refine (model_any s i j _ hs his Hst.out).mono ?_
    rintro e w3 ⟨rfl, hw3⟩
    subst hw3
    rw [HR.out]
    go_wp2
    go_ret
    exact ⟨rfl, hb⟩
  · have hrr : ((r : Int) != (r : Int)) = false := by simp
    have hge : decide ((0 : Int) ≤ (r : Int)) = true := by simp
    go_wp2_with fail
    refine (setEnd_any s i j _ hs his Hst.out).mono ?_
    rintro e w2 ⟨rfl, hw2⟩
    subst hw2
    rw [HR.out]
    go_wp2_with fail
    refine (model_any s i j _ hs his Hst.out).mono ?_
    rintro e w3 ⟨rfl, hw3⟩
    subst hw3
    rw [HR.out]
    go_wp2
    go_ret
    exact ⟨rfl, hb⟩
end Go.Proofs.Ybulkwhw
