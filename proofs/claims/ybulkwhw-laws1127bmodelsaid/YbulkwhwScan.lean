/- setEnd and the law's own model of it: both are the one scan. -/
import Derived.Test.YbulkwhwRows
import Derived.Test.YbulkwhwPlain
import Derived.WalkKit
import Derived.WalkSpells
import Derived.WalkLawsBesides
namespace Go.Proofs.Ybulkwhw
open Go.RowKit
set_option linter.unusedVariables false

theorem at_list (s : ByteArray) (k : Nat) (hk : k < s.size) (hk' : k < s.data.toList.length) : s.data.toList[k] = s[k] := by
  simp; rfl
theorem ret_int {k : IntKind} {a b : Int} (h : a = b) : Ending.returned (.int k a) = .returned (.int k b) := by rw [h]

/-- Behind the sign: one closing bracket is passed over. -/
def Tail (s : ByteArray) (k j : Nat) : Prop :=
  (s.size ≤ k ∧ j = k) ∨ (∃ h : k < s.size, (((s[k]'h).toNat : Int) == 93) = true ∧ j = k + 1) ∨ (∃ h : k < s.size, (((s[k]'h).toNat : Int) == 93) = false ∧ j = k)
/-- The scan's start: one sign is passed over, then one closing bracket. -/
def Start (s : ByteArray) (i j : Nat) : Prop :=
  (s.size ≤ i + 1 ∧ j = i + 1) ∨
  (∃ h : i + 1 < s.size, (((s[i + 1]'h).toNat : Int) == 33) = true ∧ Tail s (i + 1 + 1) j) ∨
  (∃ h : i + 1 < s.size, (((s[i + 1]'h).toNat : Int) == 33) = false ∧ (((s[i + 1]'h).toNat : Int) == 94) = true ∧ Tail s (i + 1 + 1) j) ∨
  (∃ h : i + 1 < s.size, (((s[i + 1]'h).toNat : Int) == 33) = false ∧ (((s[i + 1]'h).toNat : Int) == 94) = false ∧ Tail s (i + 1) j)
theorem tail_ex (s : ByteArray) (k : Nat) : ∃ j, Tail s k j := by
  by_cases h : k < s.size
  · cases hb : (((s[k]'h).toNat : Int) == 93) with
    | true => exact ⟨k + 1, .inr (.inl ⟨h, hb, rfl⟩)⟩
    | false => exact ⟨k, .inr (.inr ⟨h, hb, rfl⟩)⟩
  · exact ⟨k, .inl ⟨by omega, rfl⟩⟩
theorem start_ex (s : ByteArray) (i : Nat) : ∃ j, Start s i j := by
  by_cases h : i + 1 < s.size
  · obtain ⟨j1, h1⟩ := tail_ex s (i + 1)
    obtain ⟨j2, h2⟩ := tail_ex s (i + 1 + 1)
    cases hb : (((s[i + 1]'h).toNat : Int) == 33) with
    | true => exact ⟨j2, .inr (.inl ⟨h, hb, h2⟩)⟩
    | false =>
      cases hc : (((s[i + 1]'h).toNat : Int) == 94) with
      | true => exact ⟨j2, .inr (.inr (.inl ⟨h, hb, hc, h2⟩))⟩
      | false => exact ⟨j1, .inr (.inr (.inr ⟨h, hb, hc, h1⟩))⟩
  · exact ⟨i + 1, .inl ⟨by omega, rfl⟩⟩
theorem tail_le {s : ByteArray} {k j : Nat} (h : Tail s k j) : k ≤ j ∧ (j ≤ k ∨ j ≤ s.size) := by
  rcases h with ⟨_, rfl⟩ | ⟨h, _, rfl⟩ | ⟨h, _, rfl⟩ <;> omega
theorem start_le {s : ByteArray} {i j : Nat} (hi : i ≤ s.size) (h : Start s i j) : j ≤ s.size + 1 := by
  rcases h with ⟨_, rfl⟩ | ⟨h, _, ht⟩ | ⟨h, _, _, ht⟩ | ⟨h, _, _, ht⟩
  · omega
  all_goals
    have := tail_le ht
    omega

/-- One step of the scan, at the text's own byte. -/
theorem find_round (s : ByteArray) (k : Nat) (hk : k < s.size) :
    ((((s[k]'hk).toNat : Int) == 92) = true → find (s.data.toList.drop k) k false = find (s.data.toList.drop (k + 1 + 1)) (k + 1 + 1) false) ∧
    ((((s[k]'hk).toNat : Int) == 92) = false → (((s[k]'hk).toNat : Int) == 93) = true → find (s.data.toList.drop k) k false = (k : Int)) ∧
    ((((s[k]'hk).toNat : Int) == 92) = false → (((s[k]'hk).toNat : Int) == 93) = false → find (s.data.toList.drop k) k false = find (s.data.toList.drop (k + 1)) (k + 1) false) := by
  have hl : k < s.data.toList.length := by simpa using hk
  have h := find_at s.data.toList k hl
  rw [at_list s k hk hl] at h
  refine ⟨fun a => ?_, fun a b => ?_, fun a b => ?_⟩
  · rw [h, if_pos a, find_at_esc]
  · rw [h, if_neg (by rw [a]; simp), if_pos b]
  · rw [h, if_neg (by rw [a]; simp), if_neg (by rw [b]; simp)]

set_option maxHeartbeats 2000000 in
theorem setEnd_any (s : ByteArray) (i j : Nat) (w : World) (hs : s.size ≤ 4096) (hi : i ≤ s.size) (hst : Start s i j) :
    Calls Yba.prog 10 #[.string s, .int .i64 i] w fun e w' => e = .returned (.int .i64 (find (s.data.toList.drop j) j false)) ∧ w' = w := by
  have hjs := start_le hi hst
  have hsl : s.data.toList.length = s.size := by simp
  obtain ⟨R, hR⟩ : ∃ R, R = find (s.data.toList.drop j) j false := ⟨_, rfl⟩
  rw [← hR]
  have HR : Hid (find (s.data.toList.drop j) j false = R) := hR.symm
  have Hsl : Hid (s.data.toList.length = s.size) := hsl
  clear hR hsl
  rcases hst with ⟨h1, rfl⟩ | ⟨h1, h33, ⟨h2, rfl⟩ | ⟨h2, h93, rfl⟩ | ⟨h2, h93, rfl⟩⟩ | ⟨h1, h33, h94, ⟨h2, rfl⟩ | ⟨h2, h93, rfl⟩ | ⟨h2, h93, rfl⟩⟩ | ⟨h1, h33, h94, ⟨h2, rfl⟩ | ⟨h2, h93, rfl⟩ | ⟨h2, h93, rfl⟩⟩
  case inr.inr.inr.inl => omega
  all_goals
    go_enter Yba.func10, Yba.ntmps10
    go_wp2_with fail
    clear hi
    go_loop [5] (fun v => ∃ k : Nat, k ≤ s.size + 1 ∧ v = .int .i64 k ∧ Hid (find (s.data.toList.drop k) k false = R)) (fun v => s.size + 1 - (intOf v).toNat)
    case atStart => exact ⟨_, hjs, by go_num, HR⟩
    case round =>
      obtain ⟨k, hk, rfl, hf⟩ := hrel
      clear HR hjs
      by_cases hlt : k < s.size
      · have hat := find_round s k hlt
        cases h92 : (((s[k]'hlt).toNat : Int) == 92) with
        | true =>
          have hnx : Hid (find (s.data.toList.drop (k + 1 + 1)) (k + 1 + 1) false = R) := (hat.1 h92).symm.trans hf
          clear hat hf
          go_wp2
          go_round
          case rel => exact ⟨k + 1 + 1, by omega, by go_num, hnx⟩
          case measure => simp [intOf]; omega
        | false =>
          cases h93' : (((s[k]'hlt).toNat : Int) == 93) with
          | true =>
            have hnx : Hid ((k : Int) = R) := (hat.2.1 h92 h93').symm.trans hf
            clear hat hf
            go_wp2
            go_ret
            exact ⟨ret_int hnx, rfl⟩
          | false =>
            have hnx : Hid (find (s.data.toList.drop (k + 1)) (k + 1) false = R) := (hat.2.2 h92 h93').symm.trans hf
            clear hat hf
            go_wp2
            go_round
            case rel => exact ⟨k + 1, by omega, by go_num, hnx⟩
            case measure => simp [intOf]; omega
      · have hnx : Hid (-1 = R) := (find_past _ k false (by rw [Hsl.out]; omega)).symm.trans hf
        clear hf
        go_wp2
        go_ret
        exact ⟨ret_int hnx, rfl⟩
end Go.Proofs.Ybulkwhw
