/- zzs1127bbuild: some text as long as the slice. -/
import Derived.Test.YbulkwhwRows
import Derived.WalkKit
import Derived.WalkSpells
import Derived.WalkLawsBesides
namespace Go.Proofs.Ybulkwhw
open Go.RowKit
set_option linter.unusedVariables false
theorem info5 : (Yba.prog.info? 5).map (fun i => (i.zero, i.size, i.bytes)) = some (some (.int .u8 0), 1, 1) := by kernel_rfl
/-- A byte, as a value. -/
abbrev Bv (b : UInt8) : Value := .int .u8 (b.toNat : Int)
theorem cell_block_lt {w : World} {a : Addr} {v : Value} (h : w.cell? a = some v) : a.block < w.heap.size := by
  unfold World.cell? at h
  cases hh : w.heap[a.block]? with
  | none => rw [hh] at h; cases h
  | some o => exact (Array.getElem?_eq_some_iff.1 hh).1
theorem made_zero (n : Nat) : (madeCells #[Value.int .u8 0] n).toList = (List.replicate n (0 : UInt8)).map Bv := by
  rw [toList_madeCells_one, List.map_replicate]; rfl

theorem stored_byte {w : World} {base g n cap : Nat} {L : List UInt8} (h : w.ownsRow base 5 1 (.slice (some ⟨g, 0, none⟩) n cap) n (L.map Bv)) (k : Nat) (c : UInt8) :
    (w.setCell ⟨g, k, none⟩ (.int .u8 (c.toNat : Int))).ownsRow base 5 1 (.slice (some ⟨g, 0, none⟩) n cap) n ((L.set k c).map Bv) := by
  rw [List.map_set]
  exact (h.stored k (Bv c)).1
theorem set_length {L : List UInt8} {k len : Nat} {c : UInt8} (h : L.length = len) : (L.set k c).length = len := by
  rw [List.length_set]; exact h

set_option maxHeartbeats 400000 in
theorem build_any (a : Option Addr) (len cap : Nat) (zs : List Int) (w : World) (hl : len ≤ 4096)
    (hz : ∀ k, k < len → ∃ b off, a = some ⟨b, off, none⟩ ∧ w.cell? ⟨b, off + k, none⟩ = some (.int .u8 (zs.getD k 0)) ∧ 0 ≤ zs.getD k 0 ∧ zs.getD k 0 ≤ 255) (hlc : len ≤ cap) :
    Calls Yba.prog 9 #[.slice a len cap] w fun e w' => ∃ s : ByteArray, e = .returned (.string s) ∧ s.size = len ∧ Below w.heap.size w w' := by
  obtain ⟨i0, hi, hz0, hz1, hz2⟩ := info_parts info5
  have Hz : Hid (∀ k, k < len → ∃ b off, a = some ⟨b, off, none⟩ ∧ w.cell? ⟨b, off + k, none⟩ = some (.int .u8 (zs.getD k 0)) ∧ 0 ≤ zs.getD k 0 ∧ zs.getD k 0 ≤ 255) := hz
  clear hz
  go_enter Yba.func9, Yba.ntmps9
  go_wp2_with (at_make; refine wpList_make_full _ rfl _ _ 22 rfl w.heap.size 5 i0 (.int .u8 0) 1 Yba.underlying22 hi hz0 hz1 _ _ _ _ len rfl rfl rfl rfl ?b2 ?b3 (Nat.le_refl _) ?_)
  case b2 => rw [hz2]; omega
  case b3 => unfold maxLen; omega
  intro w0 hown0 hgrow0
  rw [made_zero] at hown0
  have hb0 : Below w.heap.size w w0 := (Below.refl _ _).grown hgrow0 (Nat.le_refl _) (fun k h => by cases h)
  clear hgrow0
  go_wp2_with fail
  go_loopw [4] (fun i wr => ∃ (k : Nat) (L : List UInt8), k ≤ len ∧ i = .int .i64 k ∧ Hid (L.length = len) ∧ wr.ownsRow w.heap.size 5 1 (.slice (some ⟨w.heap.size, 0, none⟩) len len) len (L.map Bv) ∧ Below w.heap.size w wr) (fun i _ => len - (intOf i).toNat)
  case atStart => exact ⟨0, List.replicate len 0, Nat.zero_le _, rfl, List.length_replicate, hown0, hb0⟩
  case round =>
    obtain ⟨k, L, hk, rfl, hL, hown, hb⟩ := hrel
    clear hown0 hb0
    by_cases hlt : k < len
    · obtain ⟨b, off, rfl, hc, x0, x1⟩ := Hz.out k hlt
      have hc' := (hb.cell (cell_block_lt hc)).trans hc
      have hkL : k < L.length := by have := hL.out; omega
      have hcell : wr.cell? ⟨w.heap.size, k, none⟩ = some (Bv L[k]) := (hown.cellAt k (by omega)).trans (by rw [List.getElem?_map, List.getElem?_eq_getElem hkL]; rfl)
      have hfz := hown.frozenAt k
      generalize zs.getD k 0 = x at *
      clear hc Hz
      go_wp2_with fail
      have hs := fun c : UInt8 => stored_byte hown k c
      have hL' := fun c : UInt8 => set_length (L := L) (k := k) (c := c) hL.out
      go_roundw
      case rel => exact ⟨k + 1, L.set k _, by omega, by go_num, hL' _, hs _, hb.setCell (Nat.le_refl _) _⟩
      case measure => simp [intOf]; omega
    · obtain rfl : k = len := by omega
      have hconv : (convert 22 9 (.slice (some ⟨w.heap.size, 0, none⟩) k k)).run Yba.prog wr = .ok (.string ⟨L.toArray⟩) wr := by
        have h := run_convert_bytes_back (P := Yba.prog) wr 22 9 5 ⟨w.heap.size, 0, none⟩ k L Yba.underlying22 Yba.underlying5 Yba.underlying9 (fun j hj => by
          exact hown.cells rfl j (Bv L[j]) (by rw [List.getElem?_map, List.getElem?_eq_getElem hj]; rfl))
        rw [hL.out] at h
        exact h
      clear Hz
      go_wp2
      go_ret
      exact ⟨⟨L.toArray⟩, rfl, by rw [← hL.out]; simp [ByteArray.size], hb⟩
end Go.Proofs.Ybulkwhw
