/- The plain laws of seat b1120aF: no Go in sight. -/
import Derived.Lib.HexFns2
namespace Go.Proofs.YbulkwecFmt
open Go.Lib
set_option linter.unusedVariables false

/-- The i-th byte of the padding. -/
def padB (i : Nat) : UInt8 := UInt8.ofNat (i * 37 + 11)
/-- The key: the data, then n bytes of padding. -/
def keyL (D : List UInt8) (n : Nat) : List UInt8 := D ++ (List.range n).map padB
theorem keyL_zero (D : List UInt8) : keyL D 0 = D := by simp [keyL]
theorem keyL_succ (D : List UInt8) (n : Nat) : keyL D (n + 1) = keyL D n ++ [padB n] := by simp [keyL, List.range_succ]
theorem keyL_length (D : List UInt8) (n : Nat) : (keyL D n).length = D.length + n := by simp [keyL]

/-- T is a text of hexadecimal digits, of either case, for the bytes K. -/
def Mixed : List UInt8 → List UInt8 → Prop
  | [], [] => True
  | b :: bs, p :: q :: t => Hx.v p = b.toNat / 16 ∧ Hx.v q = b.toNat % 16 ∧ Mixed bs t
  | _, _ => False

theorem mixed_nil : Mixed [] [] := trivial

theorem mixed_snoc : ∀ (K T : List UInt8) (b p q : UInt8), Mixed K T → Hx.v p = b.toNat / 16 → Hx.v q = b.toNat % 16 → Mixed (K ++ [b]) (T ++ [p, q])
  | [], [], b, p, q, _, hp, hq => ⟨hp, hq, trivial⟩
  | [], _ :: _, _, _, _, h, _, _ => h.elim
  | _ :: _, [], _, _, _, h, _, _ => h.elim
  | _ :: _, [_], _, _, _, h, _, _ => h.elim
  | c :: K, x :: y :: T, b, p, q, h, hp, hq => ⟨h.1, h.2.1, mixed_snoc K T b p q h.2.2 hp hq⟩

theorem mixed_length : ∀ (K T : List UInt8), Mixed K T → T.length = 2 * K.length
  | [], [], _ => rfl
  | [], _ :: _, h => h.elim
  | _ :: _, [], h => h.elim
  | _ :: _, [_], h => h.elim
  | _ :: K, _ :: _ :: T, h => by
    have := mixed_length K T h.2.2
    simp only [List.length_cons]
    omega

theorem mixed_decode : ∀ (K T : List UInt8), Mixed K T → Hx.decode T = (K, .ok)
  | [], [], _ => Hx.decode_nil
  | [], _ :: _, h => h.elim
  | _ :: _, [], h => h.elim
  | _ :: _, [_], h => h.elim
  | b :: K, p :: q :: T, h => by
    have ih := mixed_decode K T h.2.2
    have hb := b.toNat_lt
    rw [Hx.decode_two, h.1, h.2.1, if_neg (by omega), if_neg (by omega), ih]
    have e : b.toNat / 16 * 16 + b.toNat % 16 = b.toNat := by omega
    rw [e, UInt8.ofNat_toNat]

/-- Where one byte is no digit the decoding ends at a bad byte. -/
theorem decode_bad : ∀ (l : List UInt8), (∃ c ∈ l, 15 < Hx.v c) → ∃ c, (Hx.decode l).2 = .bad c
  | [], h => by obtain ⟨c, hc, _⟩ := h; cases hc
  | [x], h => by
    obtain ⟨c, hc, hv⟩ := h
    obtain rfl := List.mem_singleton.1 hc
    exact ⟨c, by rw [Hx.decode_one, if_pos hv]⟩
  | p :: q :: t, h => by
    rw [Hx.decode_two]
    by_cases h1 : 15 < Hx.v p
    · exact ⟨p, by rw [if_pos h1]⟩
    · by_cases h2 : 15 < Hx.v q
      · exact ⟨q, by rw [if_neg h1, if_pos h2]⟩
      · rw [if_neg h1, if_neg h2]
        refine decode_bad t ?_
        obtain ⟨c, hc, hv⟩ := h
        simp only [List.mem_cons] at hc
        rcases hc with rfl | rfl | hc
        · exact absurd hv h1
        · exact absurd hv h2
        · exact ⟨c, hc, hv⟩

/-- The two alphabets. -/
def upA : ByteArray := ⟨#[48, 49, 50, 51, 52, 53, 54, 55, 56, 57, 65, 66, 67, 68, 69, 70]⟩
def loA : ByteArray := ⟨#[48, 49, 50, 51, 52, 53, 54, 55, 56, 57, 97, 98, 99, 100, 101, 102]⟩
def upD (d : Nat) : UInt8 := upA.data.toList[d]?.getD 0
def loD (d : Nat) : UInt8 := loA.data.toList[d]?.getD 0
theorem upD_v : ∀ d : Nat, d < 16 → Hx.v (upD d) = d := by decide +kernel
theorem loD_v : ∀ d : Nat, d < 16 → Hx.v (loD d) = d := by decide +kernel
/-- The five characters that are no digits. -/
def badA : ByteArray := ⟨#[103, 71, 32, 122, 45]⟩
def badD (d : Nat) : UInt8 := badA.data.toList[d]?.getD 0
theorem badD_v : ∀ d : Nat, d < 5 → 15 < Hx.v (badD d) := by decide +kernel

end Go.Proofs.YbulkwecFmt
