/- The plain laws of seat b1124a: no Go in sight. -/
import Derived.Lib.Strings
namespace Go.Proofs.Ybulkwgg
set_option linter.unusedVariables false

/-- A decimal digit. -/
def digB (c : UInt8) : Bool := decide (48 ≤ (c.toNat : Int) ∧ (c.toNat : Int) ≤ 57)
/-- How many digits a text begins with. -/
def run : List UInt8 → Nat
  | [] => 0
  | c :: t => if digB c = true then run t + 1 else 0

theorem run_le : ∀ l : List UInt8, run l ≤ l.length
  | [] => Nat.le_refl _
  | c :: t => by
    have := run_le t
    unfold run
    split <;> simp <;> omega

theorem digB_yes {c : UInt8} (h : digB c = true) : 48 ≤ (c.toNat : Int) ∧ (c.toNat : Int) ≤ 57 := of_decide_eq_true h
theorem digB_no {c : UInt8} (h : digB c = false) : ¬ (48 ≤ (c.toNat : Int) ∧ (c.toNat : Int) ≤ 57) := of_decide_eq_false h

theorem run_at (l : List UInt8) (k : Nat) (hk : k < l.length) : run (l.drop k) = if digB l[k] = true then run (l.drop (k + 1)) + 1 else 0 := by
  rw [List.drop_eq_getElem_cons hk, run]

/-- What stands in the run is a digit, what stands behind it is none. -/
theorem run_in : ∀ (l : List UInt8) (j : Nat) (hj : j < l.length), j < run l → digB l[j] = true
  | [], j, hj, _ => by cases hj
  | c :: t, j, hj, h => by
    rw [run] at h
    split at h
    · rename_i hc
      cases j with
      | zero => exact hc
      | succ j => exact run_in t j (by simpa using hj) (by omega)
    · omega
theorem run_end : ∀ (l : List UInt8) (hj : run l < l.length), digB l[run l] = false
  | [], hj => by cases hj
  | c :: t, hj => by
    cases hc : digB c with
    | true =>
      have e : run (c :: t) = run t + 1 := by rw [run, if_pos hc]
      have ht : run t < t.length := by rw [e] at hj; simpa using hj
      have := run_end t ht
      simpa [e] using this
    | false =>
      have e : run (c :: t) = 0 := by rw [run, if_neg (by rw [hc]; simp)]
      simpa [e] using hc

/-- Digits put ahead lengthen the run by their number. -/
theorem run_append : ∀ (p l : List UInt8), (∀ c ∈ p, digB c = true) → run (p ++ l) = p.length + run l
  | [], l, _ => by simp
  | c :: p, l, h => by
    have hc := h c (by simp)
    have ih := run_append p l (fun x hx => h x (by simp [hx]))
    rw [List.cons_append, run, if_pos hc, ih, List.length_cons]
    omega

/-- The digit made of a byte. -/
def dig (z : Int) : UInt8 := UInt8.ofNat (48 + z.toNat % 10)
theorem dig_toNat (z : Int) (h0 : 0 ≤ z) : ((dig z).toNat : Int) = 48 + z % 10 := by
  unfold dig; rw [UInt8.toNat_ofNat']; omega
theorem dig_digB (z : Int) : digB (dig z) = true := by
  unfold digB dig
  rw [UInt8.toNat_ofNat']
  exact decide_eq_true (by omega)
end Go.Proofs.Ybulkwgg
