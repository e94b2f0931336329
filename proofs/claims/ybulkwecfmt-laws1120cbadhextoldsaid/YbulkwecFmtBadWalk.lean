/- The walk of LawS1120CBadHex. -/
import Derived.Test.YbulkwecFmtParse
import Derived.RegionTactic
namespace Go.Proofs.YbulkwecFmt
open Go.RowKit Go.Lib
set_option linter.unusedVariables false

theorem bad_val (n : Nat) (h' : n < (ByteArray.mk #[103, 71, 32, 122, 45]).size) : Value.int .u8 (((ByteArray.mk #[103, 71, 32, 122, 45])[n]'h').toNat : Int) = Bv (badD n) := by
  have e : (ByteArray.mk #[103, 71, 32, 122, 45])[n]'h' = badD n := by
    unfold badD badA
    rw [Array.getElem?_toList, Array.getElem?_eq_getElem (by exact h')]
    rfl
  rw [e]
theorem one_string (w : World) (b : UInt8) : (convert 22 9 (.slice (some ⟨w.heap.size, 0, none⟩) 1 1)).run Ybaf.prog (w.alloc (.cells #[Bv b] 5)).drew = .ok (.string ⟨#[b]⟩) (w.alloc (.cells #[Bv b] 5)).drew :=
  run_convert_bytes_back _ 22 9 5 ⟨w.heap.size, 0, none⟩ 1 [b] Ybaf.underlying22 Ybaf.underlying5 Ybaf.underlying9 (by
    intro j hj
    obtain rfl : j = 0 := by simpa using hj
    simp [Addr.add])
theorem nil_eq_nil (w : World) : (binOp .eql 22 (.slice none 0 0) (.slice none 0 0)).run Ybaf.prog w = .ok (.bool true) w := by kernel_rfl
theorem mem_mid (s : ByteArray) (p : Nat) (b : UInt8) : b ∈ (s.extract 0 p ++ ByteArray.mk #[b] ++ s.extract p s.size).data.toList := by
  simp
theorem mid_size (s : ByteArray) (p : Nat) (b : UInt8) (hp : p ≤ s.size) : (s.extract 0 p ++ ByteArray.mk #[b] ++ s.extract p s.size).size = s.size + 1 := by
  simp [ByteArray.size_append, ByteArray.size_extract]
  have e : (ByteArray.mk #[b]).size = 1 := rfl
  omega
set_option maxHeartbeats 400000 in
theorem bad_walk (a : Option Addr) (cap : Nat) (D : List UInt8) (pad mask pos c : Int) (w : World) (ev : Value) (hE : w.cell? ⟨0, 0, none⟩ = some ev) (h0 : 0 < w.heap.size) (hD : IsB w a cap D) (hlen : D.length ≤ 4096)
    (p0 : 0 ≤ pad) (p1 : pad ≤ 255) (m0 : 0 ≤ mask) (m1 : mask ≤ 18446744073709551615) (q0 : 0 ≤ pos) (q1 : pos ≤ 4294967295) (c0 : 0 ≤ c) (c1 : c ≤ 255) :
    Calls Ybaf.prog 4 #[.slice a D.length cap, .int .u8 pad, .int .u64 mask, .int .u32 pos, .int .u8 c] w fun e w' => e = .returned (.bool true) ∧ Below w.heap.size w w' := by
  go_enter Ybaf.func4, Ybaf.ntmps4
  go_wp2_with fail
  refine (key_any a cap D pad _ hD hlen p0 p1).mono ?_
  rintro e w1 ⟨n, hn, rfl, hown1, hb1⟩
  have hg1 : w.heap.size < w1.heap.size := (hown1.lt _ rfl).2
  have hKl := keyL_length D n
  have hc1 : ∀ j (hj : j < (keyL D n).length), w1.cell? ⟨w.heap.size, j, none⟩ = some (Bv (keyL D n)[j]) := fun j hj =>
    (hown1.cellAt j (by omega)).trans (by rw [List.getElem?_map, List.getElem?_eq_getElem hj]; rfl)
  rw [← hKl]
  obtain ⟨K, hK⟩ : ∃ K, K = keyL D n := ⟨_, rfl⟩
  rw [← hK] at hc1 hKl ⊢
  have hKlen : K.length ≤ 4200 := by omega
  clear hown1 hK hKl hD hlen
  go_wp2_with fail
  refine (hex_any w.heap.size K.length K mask _ hg1 hc1 (by omega) (Nat.le_refl _) m0 m1).mono ?_
  rintro e w2 ⟨T, rfl, hT, hb2⟩
  have hTl := mixed_length K T hT
  have hsz : (ByteArray.mk T.toArray).size = T.length := by simp [ByteArray.size]
  have hTlen : T.length ≤ 8400 := by omega
  clear hc1 hTl
  generalize hs : ByteArray.mk T.toArray = s at *
  have Hs : Hid (ByteArray.mk T.toArray = s) := hs
  clear hs
  have hss : s.size ≤ 8400 := by omega
  have Hsz : Hid (s.size = T.length) := hsz
  clear hsz
  have e1 : 0 ≤ pos % ((s.size : Int) + 1) := Int.emod_nonneg _ (by omega)
  have e2 : pos % ((s.size : Int) + 1) < (s.size : Int) + 1 := Int.emod_lt_of_pos _ (by omega)
  obtain ⟨p, hp⟩ : ∃ p : Nat, pos % ((s.size : Int) + 1) = (p : Int) := ⟨(pos % ((s.size : Int) + 1)).toNat, by omega⟩
  have hps : p ≤ s.size := by omega
  clear e1 e2
  go_wp2_with fail
  rw [bad_val]
  have hbad := badD_v (c % 5).toNat (by omega)
  generalize badD (c % 5).toNat = b at *
  have hconv := one_string w2 b
  go_region
  clear hconv
  have hmem := mem_mid s p b
  have hmsz := mid_size s p b hps
  generalize s.extract 0 p ++ ByteArray.mk #[b] ++ s.extract p s.size = m at *
  obtain ⟨ch, hch⟩ := decode_bad m.data.toList ⟨b, hmem, hbad⟩
  have hbel3 : Below w.heap.size w (w2.alloc (.cells #[Bv b] 5)).drew := ((hb1.trans (hb2.mono (by omega))).alloc (Nat.le_trans hb1.size hb2.size) _).drew
  generalize hw3 : (w2.alloc (.cells #[Bv b] 5)).drew = w3 at *
  clear hw3 hb1 hb2 hT
  have hE3 : w3.cell? ⟨0, 0, none⟩ = some ev := (hbel3.cell (by exact h0)).trans hE
  have Hch : Hid ((Hx.decode m.data.toList).2 = .bad ch) := hch
  clear hch hE
  go_wp2_with fail
  refine (parse_bad m ch _ ev hE3 (Nat.lt_of_lt_of_le h0 hbel3.size) (by omega) Hch.out).mono ?_
  rintro e w4 ⟨x, rfl, hb4⟩
  clear hE3
  have hnil := nil_eq_nil
  go_wp2_with fail
  go_ret
  exact ⟨rfl, (hbel3.trans (hb4.mono hbel3.size)).alloc (Nat.le_trans hbel3.size hb4.size) _⟩

set_option maxHeartbeats 400000 in
theorem bad_long (a : Option Addr) (len cap : Nat) (pad mask pos c : Int) (w : World) (hlen : 4096 < (len : Int)) :
    Calls Ybaf.prog 4 #[.slice a len cap, .int .u8 pad, .int .u64 mask, .int .u32 pos, .int .u8 c] w fun e w' => e = .returned (.bool true) ∧ Below w.heap.size w w' := by
  go_enter Ybaf.func4, Ybaf.ntmps4
  go_wp2
  go_ret
  exact ⟨rfl, Below.refl _ _⟩
end Go.Proofs.YbulkwecFmt
