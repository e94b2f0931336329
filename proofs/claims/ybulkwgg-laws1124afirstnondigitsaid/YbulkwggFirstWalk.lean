/- The walk of LawS1124AFirstNonDigit. -/
import Derived.Test.YbulkwggSkip
namespace Go.Proofs.Ybulkwgg
open Go.RowKit
set_option linter.unusedVariables false

theorem run_in_at (s : ByteArray) (i k : Nat) (hik : i ≤ k) (hk : k < i + run (s.data.toList.drop i)) (hs : k < s.size) : digB s[k] = true := by
  have hl : k < s.data.toList.length := by simpa using hs
  have h := run_in (s.data.toList.drop i) (k - i) (by rw [List.length_drop]; omega) (by omega)
  rw [List.getElem_drop] at h
  have e : i + (k - i) = k := by omega
  simp only [e] at h
  rwa [at_list s k hs hl] at h
theorem run_end_at (s : ByteArray) (i r : Nat) (hr : r = i + run (s.data.toList.drop i)) (hs : r < s.size) : digB s[r] = false := by
  have hl : r < s.data.toList.length := by simpa using hs
  have h := run_end (s.data.toList.drop i) (by rw [List.length_drop]; omega)
  rw [List.getElem_drop] at h
  simp only [← hr] at h
  rwa [at_list s r hs hl] at h

set_option maxHeartbeats 400000 in
theorem first_long (s : ByteArray) (i : Int) (w : World) (hm : s.size ≤ maxLen) (h : 1024 < (s.size : Int)) :
    Calls Yba.prog 3 #[.string s, .int .i64 i] w fun e w' => e = .returned (.bool true) ∧ Grown w w' := by
  unfold maxLen at hm
  go_enter Yba.func3, Yba.ntmps3
  go_wp2
  go_ret
  exact ⟨rfl, Grown.refl _⟩

set_option maxHeartbeats 400000 in
theorem first_walk (s : ByteArray) (i : Int) (w : World) (hs : s.size ≤ 1024) (h0 : -9223372036854775808 ≤ i) (h1 : i ≤ 9223372036854775807) :
    Calls Yba.prog 3 #[.string s, .int .i64 i] w fun e w' => e = .returned (.bool true) ∧ Grown w w' := by
  have hlong : decide (1024 < (s.size : Int)) = false := by simp; omega
  obtain ⟨j, hj⟩ : ∃ j : Int, (i < 0 ∧ -(i + 1) = j) ∨ (¬ i < 0 ∧ j = i) := by
    by_cases hneg : i < 0
    · exact ⟨_, .inl ⟨hneg, rfl⟩⟩
    · exact ⟨_, .inr ⟨hneg, rfl⟩⟩
  have j0 : 0 ≤ j := by omega
  have j1 : j ≤ 9223372036854775807 := by omega
  by_cases hpast : (s.size : Int) ≤ j
  · -- the index lies at or past the end
    have heq : (j == j) = true := by simp
    rcases hj with ⟨hneg, hj⟩ | ⟨hneg, rfl⟩
    all_goals
      go_enter Yba.func3, Yba.ntmps3
      go_wp2_with fail
      refine (skip_past s j _ (by omega) hpast).mono ?_
      rintro e w1 ⟨rfl, hw1⟩
      subst hw1
      go_wp2
      go_ret
      exact ⟨rfl, Grown.refl _⟩
  · obtain ⟨k0, rfl⟩ : ∃ k0 : Nat, j = (k0 : Int) := ⟨j.toNat, by omega⟩
    have hk0 : k0 < s.size := by omega
    obtain ⟨r, hr⟩ : ∃ r : Nat, r = k0 + run (s.data.toList.drop k0) := ⟨_, rfl⟩
    have hrs : r ≤ s.size := by
      have := run_le (s.data.toList.drop k0)
      rw [List.length_drop] at this
      have e : s.data.toList.length = s.size := by simp
      omega
    have hk0r : k0 ≤ r := by omega
    have hin : ∀ k, k0 ≤ k → k < r → (hk : k < s.size) → digB s[k] = true := fun k a b hk => run_in_at s k0 k a (by omega) hk
    have hout : (hk : r < s.size) → digB s[r] = false := fun hk => run_end_at s k0 r hr hk
    have Hr : Hid (r = k0 + run (s.data.toList.drop k0)) := hr
    have Hin : Hid (∀ k, k0 ≤ k → k < r → (hk : k < s.size) → digB s[k] = true) := hin
    have Hout : Hid ((hk : r < s.size) → digB s[r] = false) := hout
    clear hr hin hout
    have e1 : decide (r < k0) = false := by simp; omega
    have e2 : decide (s.size < r) = false := by simp; omega
    have e3 : decide (s.size ≤ k0) = false := by simp; omega
    rcases hj with ⟨hneg, hj⟩ | ⟨hneg, rfl⟩
    all_goals
      go_enter Yba.func3, Yba.ntmps3
      go_wp2_with fail
      refine (skip_any s k0 _ (by omega) (by omega)).mono ?_
      rintro e w1 ⟨rfl, hw1⟩
      subst hw1
      rw [← Hr.out]
      go_wp2_with fail
      go_loopw [6] (fun v wr => ∃ k : Nat, k0 ≤ k ∧ k ≤ r ∧ v = .int .i64 k ∧ Grown w1 wr) (fun v _ => r - (intOf v).toNat)
      case atStart => exact ⟨k0, Nat.le_refl _, hk0r, rfl, Grown.refl _⟩
      case round =>
        obtain ⟨k, hk1, hk2, rfl, hgr⟩ := hrel
        by_cases hlt : k < r
        · have hks : k < s.size := by omega
          obtain ⟨d0, d1⟩ := digB_yes (Hin.out k hk1 hlt hks)
          go_wp2_with (go_at_call 9; refine (isdig_yes _ _ d0 d1).mono ?_; rintro e w2 ⟨rfl, hw2⟩; subst hw2)
          go_roundw
          case rel => exact ⟨k + 1, by omega, by omega, by go_num, hgr⟩
          case measure => simp [intOf]; omega
        · obtain rfl : k = r := by omega
          by_cases hks : k < s.size
          · have dn := digB_no (Hout.out hks)
            go_wp2_with (go_at_call 9; refine (isdig_no _ _ dn).mono ?_; rintro e w2 ⟨rfl, hw2⟩; subst hw2)
            go_ret
            exact ⟨rfl, hgr⟩
          · go_wp2
            go_ret
            exact ⟨rfl, hgr⟩
end Go.Proofs.Ybulkwgg
