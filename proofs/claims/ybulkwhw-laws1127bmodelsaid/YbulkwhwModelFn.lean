/- The law's own model of setEnd is the same scan. -/
import Derived.Test.YbulkwhwScan
namespace Go.Proofs.Ybulkwhw
open Go.RowKit
set_option linter.unusedVariables false

theorem find_round_esc (s : ByteArray) (k : Nat) (hk : k < s.size) (a : (((s[k]'hk).toNat : Int) == 92) = true) : find (s.data.toList.drop k) k false = find (s.data.toList.drop (k + 1)) (k + 1) true := by
  have hl : k < s.data.toList.length := by simpa using hk
  have h := find_at s.data.toList k hl
  rw [at_list s k hk hl] at h
  rw [h, if_pos a]

set_option maxHeartbeats 2000000 in
theorem model_any (s : ByteArray) (i j : Nat) (w : World) (hs : s.size ≤ 4096) (hi : i ≤ s.size) (hst : Start s i j) :
    Calls Yba.prog 11 #[.string s, .int .i64 i] w fun e w' => e = .returned (.int .i64 (find (s.data.toList.drop j) j false)) ∧ w' = w := by
  have hjs := start_le hi hst
  have hsl : s.data.toList.length = s.size := by simp
  obtain ⟨R, hR⟩ : ∃ R, R = find (s.data.toList.drop j) j false := ⟨_, rfl⟩
  rw [← hR]
  have HR : Hid (find (s.data.toList.drop j) j false = R) := hR.symm
  have Hsl : Hid (s.data.toList.length = s.size) := hsl
  clear hR hsl
  rcases hst with ⟨h1, rfl⟩ | ⟨h1, h33, ⟨h2, rfl⟩ | ⟨h2, h93, rfl⟩ | ⟨h2, h93, rfl⟩⟩ | ⟨h1, h33, h94, ⟨h2, rfl⟩ | ⟨h2, h93, rfl⟩ | ⟨h2, h93, rfl⟩⟩ | ⟨h1, h33, h94, ⟨h2, rfl⟩ | ⟨h2, h93, rfl⟩ | ⟨h2, h93, rfl⟩⟩
  case inr.inr.inr.inl => omega
  all_goals
    go_enter Yba.func11, Yba.ntmps11
    go_wp2_with fail
    clear hi
    go_loop [7, 8] (fun u v => ∃ (k : Nat) (b : Bool), k ≤ s.size + 1 ∧ u = .bool b ∧ v = .int .i64 k ∧ Hid (find (s.data.toList.drop k) k b = R)) (fun _ v => s.size + 1 - (intOf v).toNat)
    case atStart => exact ⟨_, false, hjs, rfl, by go_num, HR⟩
    case round =>
      obtain ⟨k, b, hk, rfl, rfl, hf⟩ := hrel
      clear HR hjs
      by_cases hlt : k < s.size
      · cases b with
        | true =>
          have hnx : Hid (find (s.data.toList.drop (k + 1)) (k + 1) false = R) := (find_at_esc _ k).symm.trans hf
          clear hf
          go_wp2
          go_round
          case rel => exact ⟨k + 1, false, by omega, rfl, by go_num, hnx⟩
          case measure => simp [intOf]; omega
        | false =>
          have hat := find_round s k hlt
          cases h92 : (((s[k]'hlt).toNat : Int) == 92) with
          | true =>
            have hnx : Hid (find (s.data.toList.drop (k + 1)) (k + 1) true = R) := (find_round_esc s k hlt h92).symm.trans hf
            clear hat hf
            go_wp2
            go_round
            case rel => exact ⟨k + 1, true, by omega, rfl, by go_num, hnx⟩
            case measure => simp [intOf]; omega
          | false =>
            cases h93' : (((s[k]'hlt).toNat : Int) == 93) with
            | true =>
              have hnx : Hid ((k : Int) = R) := (hat.2.1 h92 h93').symm.trans hf
              clear hat hf
              go_wp2
              go_ret
              exact ⟨ret_int hnx, rfl⟩
            | false =>
              have hnx : Hid (find (s.data.toList.drop (k + 1)) (k + 1) false = R) := (hat.2.2 h92 h93').symm.trans hf
              clear hat hf
              go_wp2
              go_round
              case rel => exact ⟨k + 1, false, by omega, rfl, by go_num, hnx⟩
              case measure => simp [intOf]; omega
      · have hnx : Hid (-1 = R) := (find_past _ k b (by rw [Hsl.out]; omega)).symm.trans hf
        clear hf
        go_wp2
        go_ret
        exact ⟨ret_int hnx, rfl⟩
end Go.Proofs.Ybulkwhw
