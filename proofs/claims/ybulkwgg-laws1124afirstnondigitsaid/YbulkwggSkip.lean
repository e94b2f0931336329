/- skipDigits and the law's own test of a digit. -/
import Derived.Test.YbulkwggRows
import Derived.Test.YbulkwggPlain
import Derived.WalkKit
import Derived.WalkSpells
import Derived.WalkLawsBesides
namespace Go.Proofs.Ybulkwgg
open Go.RowKit
set_option linter.unusedVariables false
theorem at_list (s : ByteArray) (k : Nat) (hk : k < s.size) (hk' : k < s.data.toList.length) : s.data.toList[k] = s[k] := by
  simp; rfl

theorem ret_int {k : IntKind} {a b : Int} (h : a = b) : Ending.returned (.int k a) = .returned (.int k b) := by rw [h]

set_option maxHeartbeats 400000 in
theorem isdig_yes (n : Int) (w : World) (h0 : 48 ≤ n) (h1 : n ≤ 57) : Calls Yba.prog 9 #[.int .u8 n] w fun e w' => e = .returned (.bool true) ∧ w' = w := by
  go_enter Yba.func9, Yba.ntmps9
  go_wp2
  go_ret
  exact ⟨rfl, rfl⟩
set_option maxHeartbeats 400000 in
theorem isdig_no (n : Int) (w : World) (h : ¬ (48 ≤ n ∧ n ≤ 57)) : Calls Yba.prog 9 #[.int .u8 n] w fun e w' => e = .returned (.bool false) ∧ w' = w := by
  by_cases h1 : 48 ≤ n
  · have hd : decide (n ≤ 57) = false := by simp; omega
    go_enter Yba.func9, Yba.ntmps9
    go_wp2
    go_ret
    exact ⟨rfl, rfl⟩
  · go_enter Yba.func9, Yba.ntmps9
    go_wp2
    go_ret
    exact ⟨rfl, rfl⟩

set_option maxHeartbeats 400000 in
theorem skip_past (s : ByteArray) (i : Int) (w : World) (hs : s.size ≤ 4096) (hi : (s.size : Int) ≤ i) : Calls Yba.prog 8 #[.string s, .int .i64 i] w fun e w' => e = .returned (.int .i64 i) ∧ w' = w := by
  go_enter Yba.func8, Yba.ntmps8
  go_wp2_with fail
  go_loop [1] (fun v => v = .int .i64 i) (fun _ => 0)
  case atStart => rfl
  case round =>
    subst hrel
    go_wp2
    go_ret
    exact ⟨rfl, rfl⟩

set_option maxHeartbeats 400000 in
theorem skip_any (s : ByteArray) (i : Nat) (w : World) (hs : s.size ≤ 4096) (hi : i ≤ s.size) :
    Calls Yba.prog 8 #[.string s, .int .i64 i] w fun e w' => e = .returned (.int .i64 ((i + run (s.data.toList.drop i) : Nat) : Int)) ∧ w' = w := by
  go_enter Yba.func8, Yba.ntmps8
  go_wp2_with fail
  go_loop [1] (fun v => ∃ k : Nat, i ≤ k ∧ k ≤ s.size ∧ v = .int .i64 k ∧ Hid (k + run (s.data.toList.drop k) = i + run (s.data.toList.drop i))) (fun v => s.size - (intOf v).toNat)
  case atStart => exact ⟨i, Nat.le_refl _, hi, rfl, rfl⟩
  case round =>
    obtain ⟨k, hik, hk, rfl, hrun⟩ := hrel
    by_cases hlt : k < s.size
    · have hk' : k < s.data.toList.length := by simpa using hlt
      have hat := run_at s.data.toList k hk'
      rw [at_list s k hlt hk'] at hat
      cases hd : digB s[k] with
      | true =>
        obtain ⟨d0, d1⟩ := digB_yes hd
        have hstep : Hid (k + 1 + run (s.data.toList.drop (k + 1)) = i + run (s.data.toList.drop i)) := by
          have := hrun.out
          rw [hat, if_pos hd] at this
          show _ = _
          omega
        clear hat hd hrun
        go_wp2
        go_round
        case rel => exact ⟨k + 1, by omega, by omega, by go_num, hstep⟩
        case measure => simp [intOf]; omega
      | false =>
        have hno := digB_no hd
        have hend : Hid (k = i + run (s.data.toList.drop i)) := by
          have := hrun.out
          rw [hat, if_neg (by rw [hd]; simp)] at this
          show _ = _
          omega
        clear hat hd hrun
        by_cases h48 : 48 ≤ (s[k].toNat : Int)
        all_goals
          go_wp2
          go_ret
          exact ⟨ret_int (by have := hend.out; omega), rfl⟩
    · have hend : Hid (k = i + run (s.data.toList.drop i)) := by
        have := hrun.out
        rw [List.drop_eq_nil_of_le (by simp; omega)] at this
        exact this
      clear hrun
      go_wp2
      go_ret
      exact ⟨ret_int (by have := hend.out; omega), rfl⟩
end Go.Proofs.Ybulkwgg
