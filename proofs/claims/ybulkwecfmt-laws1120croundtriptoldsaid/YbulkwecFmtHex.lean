/- The walk of zzs1120chex: a text of hexadecimal digits of either case. -/
import Derived.Test.YbulkwecFmtKey
namespace Go.Proofs.YbulkwecFmt
open Go.RowKit
set_option linter.unusedVariables false

theorem up_val (n : Nat) (h' : n < (ByteArray.mk #[48, 49, 50, 51, 52, 53, 54, 55, 56, 57, 65, 66, 67, 68, 69, 70]).size) : Value.int .u8 (((ByteArray.mk #[48, 49, 50, 51, 52, 53, 54, 55, 56, 57, 65, 66, 67, 68, 69, 70])[n]'h').toNat : Int) = Bv (upD n) := by
  have e : (ByteArray.mk #[48, 49, 50, 51, 52, 53, 54, 55, 56, 57, 65, 66, 67, 68, 69, 70])[n]'h' = upD n := by
    unfold upD upA
    rw [Array.getElem?_toList, Array.getElem?_eq_getElem (by exact h')]
    rfl
  rw [e]
theorem lo_val (n : Nat) (h' : n < (ByteArray.mk #[48, 49, 50, 51, 52, 53, 54, 55, 56, 57, 97, 98, 99, 100, 101, 102]).size) : Value.int .u8 (((ByteArray.mk #[48, 49, 50, 51, 52, 53, 54, 55, 56, 57, 97, 98, 99, 100, 101, 102])[n]'h').toNat : Int) = Bv (loD n) := by
  have e : (ByteArray.mk #[48, 49, 50, 51, 52, 53, 54, 55, 56, 57, 97, 98, 99, 100, 101, 102])[n]'h' = loD n := by
    unfold loD loA
    rw [Array.getElem?_toList, Array.getElem?_eq_getElem (by exact h')]
    rfl
  rw [e]
theorem map_two (T : List UInt8) (p q : UInt8) : T.map Bv ++ [Bv p] ++ [Bv q] = (T ++ [p, q]).map Bv := by simp
theorem one_oneCell (n : Int) : ∀ u ∈ [Value.int .u8 n], u.oneCell' = true := by
  intro u hu; simp at hu; subst hu; rfl

/-- What a round adds. -/
theorem mixed_round (K T : List UInt8) (k : Nat) (x : Int) (p q : UInt8) (hlt : k < K.length) (hx : x = (K[k].toNat : Int)) (hT : Mixed (K.take k) T)
    (hp : Lib.Hx.v p = (x / 16).toNat) (hq : Lib.Hx.v q = (x % 16).toNat) : Mixed (K.take (k + 1)) (T ++ [p, q]) := by
  rw [List.take_succ_eq_append_getElem hlt]
  exact mixed_snoc _ _ _ _ _ hT (by rw [hp]; omega) (by rw [hq]; omega)

set_option maxHeartbeats 1600000 in
theorem hex_any (g cap : Nat) (K : List UInt8) (mask : Int) (w : World) (hg : g < w.heap.size) (hc : ∀ j (hj : j < K.length), w.cell? ⟨g, j, none⟩ = some (Bv K[j])) (hlen : K.length ≤ 8192) (hKc : K.length ≤ cap) (m0 : 0 ≤ mask) (m1 : mask ≤ 18446744073709551615) :
    Calls Ybaf.prog 6 #[.slice (some ⟨g, 0, none⟩) K.length cap, .int .u64 mask] w fun e w' => ∃ T : List UInt8, e = .returned (.string ⟨T.toArray⟩) ∧ Mixed K T ∧ Below w.heap.size w w' := by
  obtain ⟨i0, hi, hz0, hz1, hz2⟩ := info_parts info5
  go_enter Ybaf.func6, Ybaf.ntmps6
  go_wp2_with (at_make; refine wpList_make_own _ rfl _ _ 22 rfl w.heap.size 5 i0 (.int .u8 0) 1 Ybaf.underlying22 hi hz0 hz1 _ _ _ (2 * K.length) rfl rfl (by omega) ?b2 ?b3 (Nat.le_refl _) ?_)
  case b2 => rw [hz2]; omega
  case b3 => unfold maxLen; omega
  intro w0 hown0 hgrow0
  have hb0 : Below w.heap.size w w0 := (Below.refl _ _).grown hgrow0 (Nat.le_refl _) (fun k h => by cases h)
  clear hgrow0
  go_wp2_with fail
  go_loopw [5, 16] (fun out i wr => ∃ (k : Nat) (T : List UInt8), k ≤ K.length ∧ i = .int .i64 k ∧ out = .slice (some ⟨w.heap.size, 0, none⟩) (2 * k) (2 * K.length) ∧
      wr.ownsRow w.heap.size 5 1 (.slice (some ⟨w.heap.size, 0, none⟩) (2 * k) (2 * K.length)) (2 * k) (T.map Bv) ∧ Mixed (K.take k) T ∧ Below w.heap.size w wr) (fun _ i _ => K.length - (intOf i).toNat)
  case atStart => exact ⟨0, [], Nat.zero_le _, rfl, rfl, hown0, by simpa using mixed_nil, hb0⟩
  case round =>
    obtain ⟨k, T, hk, rfl, rfl, hown, hT, hb⟩ := hrel
    clear hown0 hb0
    by_cases hlt : k < K.length
    · have hck : wr.cell? ⟨g, k, none⟩ = some (Bv K[k]) := (hb.cell (by exact hg)).trans (hc k hlt)
      obtain ⟨x, hx⟩ : ∃ x : Int, x = (K[k].toNat : Int) := ⟨_, rfl⟩
      have hx0 : 0 ≤ x := by omega
      have hx1 : x < 256 := by have := K[k].toNat_lt; omega
      have hck' : wr.cell? ⟨g, k, none⟩ = some (.int .u8 x) := by rw [hck, hx]
      have HX : Hid (x = (K[k].toNat : Int)) := hx
      clear hx hck
      clear hc
      cases hm1 : (bits .and .u64 (mask / 2 ^ (2 * k % 64)) 1 == 1)
      all_goals cases hm2 : (bits .and .u64 (mask / 2 ^ ((2 * k + 1) % 64)) 1 == 1)
      all_goals
        go_wp2_with (first
          | (at_builtin; refine wpList_append_fits _ rfl (.tmp 35) (.tmp 38) 22 rfl w.heap.size 5 i0 1 Ybaf.underlying22 hi hz1 w.heap.size (2 * k) (2 * K.length) _ rfl (hown.alloc _) ⟨wr.heap.size, 0, none⟩ 1 1 [_] rfl rfl (cell_one_new _ _ _) (one_oneCell _) (by omega) ?_; intro w1 hown1 hgrow1)
          | (at_builtin; refine wpList_append_fits _ rfl (.tmp 40) (.tmp 43) 22 rfl w.heap.size 5 i0 1 Ybaf.underlying22 hi hz1 w.heap.size (2 * k) (2 * K.length) _ rfl (hown.alloc _) ⟨wr.heap.size, 0, none⟩ 1 1 [_] rfl rfl (cell_one_new _ _ _) (one_oneCell _) (by omega) ?_; intro w1 hown1 hgrow1)
          | (at_builtin; refine wpList_append_fits _ rfl (.tmp 54) (.tmp 57) 22 rfl w.heap.size 5 i0 1 Ybaf.underlying22 hi hz1 w.heap.size (2 * k + 1) (2 * K.length) _ rfl (hown1.alloc _) ⟨w1.heap.size, 0, none⟩ 1 1 [_] rfl rfl (cell_one_new _ _ _) (one_oneCell _) (by omega) ?_; intro w2 hown2 hgrow2)
          | (at_builtin; refine wpList_append_fits _ rfl (.tmp 59) (.tmp 62) 22 rfl w.heap.size 5 i0 1 Ybaf.underlying22 hi hz1 w.heap.size (2 * k + 1) (2 * K.length) _ rfl (hown1.alloc _) ⟨w1.heap.size, 0, none⟩ 1 1 [_] rfl rfl (cell_one_new _ _ _) (one_oneCell _) (by omega) ?_; intro w2 hown2 hgrow2))
      all_goals
        have hbA : Below w.heap.size w w1 := (hb.alloc hb.size _).grown hgrow1 (by simp; have := hb.size; omega) (fun k hk => by cases hk; exact Nat.le_refl _)
        have hbB : Below w.heap.size w w2 := (hbA.alloc hbA.size _).grown hgrow2 (by simp; have := hbA.size; omega) (fun k hk => by cases hk; exact Nat.le_refl _)
        rw [show 2 * k + 1 + 1 = 2 * (k + 1) from by omega] at hown2
        have hfin : ∃ p q, Lib.Hx.v p = (x / 16).toNat ∧ Lib.Hx.v q = (x % 16).toNat ∧ w2.ownsRow w.heap.size 5 1 (.slice (some ⟨w.heap.size, 0, none⟩) (2 * (k + 1)) (2 * K.length)) (2 * (k + 1)) ((T ++ [p, q]).map Bv) := by
          first
            | (rw [up_val, up_val, map_two] at hown2; exact ⟨_, _, upD_v _ (by omega), upD_v _ (by omega), hown2⟩)
            | (rw [lo_val, lo_val, map_two] at hown2; exact ⟨_, _, loD_v _ (by omega), loD_v _ (by omega), hown2⟩)
            | (rw [up_val, lo_val, map_two] at hown2; exact ⟨_, _, upD_v _ (by omega), loD_v _ (by omega), hown2⟩)
            | (rw [lo_val, up_val, map_two] at hown2; exact ⟨_, _, loD_v _ (by omega), upD_v _ (by omega), hown2⟩)
        obtain ⟨p, q, hp, hq, hfin⟩ := hfin
        go_roundw
        case rel => exact ⟨k + 1, T ++ [p, q], by omega, by go_num, by rw [show 2 * k + 1 + 1 = 2 * (k + 1) from by omega], hfin, mixed_round K T k x p q hlt HX.out hT hp hq, hbB⟩
        case measure => simp [intOf]; omega
    · obtain rfl : k = K.length := by omega
      rw [List.take_length] at hT
      have hTl := mixed_length K T hT
      have hconv : (convert 22 9 (.slice (some ⟨w.heap.size, 0, none⟩) (2 * K.length) (2 * K.length))).run Ybaf.prog wr = .ok (.string ⟨T.toArray⟩) wr := by
        rw [← hTl]
        refine run_convert_bytes_back wr 22 9 5 ⟨w.heap.size, 0, none⟩ _ T Ybaf.underlying22 Ybaf.underlying5 Ybaf.underlying9 ?_
        intro j hj
        have := hown.cells rfl j (Bv T[j]) (by rw [List.getElem?_map, List.getElem?_eq_getElem hj]; rfl)
        exact this
      clear hc
      go_wp2
      go_ret
      exact ⟨T, rfl, hT, hb⟩
end Go.Proofs.YbulkwecFmt
