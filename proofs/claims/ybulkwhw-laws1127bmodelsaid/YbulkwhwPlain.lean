/- The plain laws of seat b1127a: no Go in sight. -/
import Derived.Lib.Strings
namespace Go.Proofs.Ybulkwhw
set_option linter.unusedVariables false

/-- The scan for the closing bracket from place pos on, with the state 'the last one was a backslash'. -/
def find : List UInt8 → Nat → Bool → Int
  | [], _, _ => -1
  | _ :: t, pos, true => find t (pos + 1) false
  | c :: t, pos, false => if ((c.toNat : Int) == 92) = true then find t (pos + 1) true else if ((c.toNat : Int) == 93) = true then (pos : Int) else find t (pos + 1) false

theorem find_nil (pos : Nat) (b : Bool) : find [] pos b = -1 := by cases b <;> rfl
theorem find_esc (t : List UInt8) (pos : Nat) : find t pos true = find (t.drop 1) (pos + 1) false := by
  cases t with
  | nil => rfl
  | cons c t => rfl
theorem find_past (l : List UInt8) (k : Nat) (b : Bool) (h : l.length ≤ k) : find (l.drop k) k b = -1 := by
  rw [List.drop_eq_nil_of_le h, find_nil]
theorem find_at (l : List UInt8) (k : Nat) (hk : k < l.length) : find (l.drop k) k false = if ((l[k].toNat : Int) == 92) = true then find (l.drop (k + 1)) (k + 1) true else if ((l[k].toNat : Int) == 93) = true then (k : Int) else find (l.drop (k + 1)) (k + 1) false := by
  rw [List.drop_eq_getElem_cons hk]; rfl
theorem find_at_esc (l : List UInt8) (k : Nat) : find (l.drop k) k true = find (l.drop (k + 1)) (k + 1) false := by
  rw [find_esc, List.drop_drop]

/-- What a scan finds lies at or behind its start, within the text, and is a closing bracket. -/
theorem find_spec (l : List UInt8) : ∀ (m k : Nat) (b : Bool), l.length - k = m → find (l.drop k) k b = -1 ∨ ∃ r : Nat, find (l.drop k) k b = (r : Int) ∧ k ≤ r ∧ ∃ h : r < l.length, ((l[r].toNat : Int) == 93) = true
  | m, k, b, hm => by
    by_cases hk : k < l.length
    · have up : ∀ b', find (l.drop (k + 1)) (k + 1) b' = -1 ∨ ∃ r : Nat, find (l.drop (k + 1)) (k + 1) b' = (r : Int) ∧ k ≤ r ∧ ∃ h : r < l.length, ((l[r].toNat : Int) == 93) = true := fun b' => by
        match m, hm with
        | 0, hm => omega
        | m + 1, hm =>
          rcases find_spec l m (k + 1) b' (by omega) with h | ⟨r, h1, h2, h3⟩
          · exact .inl h
          · exact .inr ⟨r, h1, by omega, h3⟩
      cases b with
      | true => rw [find_at_esc]; exact up false
      | false =>
        rw [find_at l k hk]
        split
        · exact up true
        · split
          · rename_i h93
            exact .inr ⟨k, rfl, Nat.le_refl _, hk, h93⟩
          · exact up false
    · exact .inl (find_past l k b (by omega))
end Go.Proofs.Ybulkwhw
