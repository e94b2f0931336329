/- ParseSecret: a bad text; a long enough key. -/
import Derived.Test.YbulkwecFmtHex
import Derived.Test.YbulkwecFmtShelf
namespace Go.Proofs.YbulkwecFmt
open Go.RowKit Go.Lib
set_option linter.unusedVariables false
theorem errVal_bad (ev : Value) (c : UInt8) : Hx.errVal 49 ev (.bad c) = .iface 49 (.int .u8 (c.toNat : Int)) := rfl
theorem errVal_ok (ev : Value) : Hx.errVal 49 ev .ok = .nilIface := rfl
theorem behind_box {w w1 : World} {v : Value} {t : TypeId} (hb : Below (w.alloc (.cells #[v] t)).heap.size (w.alloc (.cells #[v] t)) w1) :
    w.heap.size < w1.heap.size ∧ w1.cell? ⟨w.heap.size, 0, none⟩ = some v ∧ w1.frozen? ⟨w.heap.size, 0, none⟩ = false ∧ Below w.heap.size w w1 := by
  have hs := hb.size
  have hz : (w.alloc (.cells #[v] t)).heap.size = w.heap.size + 1 := by simp
  refine ⟨by omega, (hb.cell (by rw [hz]; exact Nat.lt_succ_self _)).trans (by simp), (hb.frozen (by rw [hz]; exact Nat.lt_succ_self _)).trans (by simp), ?_⟩
  exact ((Below.refl _ _).alloc (Nat.le_refl _) _).trans (hb.mono (by omega))

theorem row_cells {w1 : World} {N cap : Nat} {K : List UInt8} (hrow : w1.rowIs N 5 cap (Hx.rowP (fun _ => .int .u8 0) 0 K)) (hl : K.length ≤ cap) :
    N < w1.heap.size ∧ ∀ j (hj : j < K.length), w1.cell? ⟨N, j, none⟩ = some (Bv K[j]) := by
  obtain ⟨cc, hh, hss, hcc⟩ := hrow
  refine ⟨(Array.getElem?_eq_some_iff.1 hh).1, fun j hj => ?_⟩
  have hj2 := hcc j (by omega)
  have e : Hx.rowP (fun _ => Value.int .u8 0) 0 K j = Bv K[j] := by
    unfold Hx.rowP
    rw [if_pos ⟨Nat.zero_le _, by omega⟩, Nat.sub_zero, List.getElem?_eq_getElem hj]
    rfl
  rw [e] at hj2
  simp [World.cell?, hh, hj2]

set_option maxHeartbeats 400000 in
theorem parse_bad (s : ByteArray) (c : UInt8) (w : World) (ev : Value) (hE : w.cell? ⟨0, 0, none⟩ = some ev) (h0 : 0 < w.heap.size) (hs : s.size ≤ 20000) (hd : (Hx.decode s.data.toList).2 = .bad c) :
    Calls Ybaf.prog 7 #[.string s] w fun e w' => ∃ x : Value, e = .returned (.tuple #[.agg #[.slice none 0 0], .iface 44 x]) ∧ Below w.heap.size w w' := by
  have hE1 : ∀ o, (w.alloc o).cell? ⟨0, 0, none⟩ = some ev := fun o => by rw [World.cell?_alloc_lt _ _ _ h0]; exact hE
  have Hd : Hid ((Hx.decode s.data.toList).2 = .bad c) := hd
  clear hd hE
  go_enter Ybaf.func7, Ybaf.ntmps7
  go_wp2_with fail
  refine (Ybaf.hex_DecodeString s _ ev (hE1 _) (by omega)).mono ?_
  rintro e w1 ⟨rfl, hrow, hb1⟩
  rw [Hd.out, errVal_bad]
  obtain ⟨hsz, hcell, hfz, hbel⟩ := behind_box hb1
  clear hE1 hrow hb1
  go_wp2
  exact bodyPost_ret (v := .tuple #[.agg #[.slice none 0 0], .iface 44 (.pointer (some ⟨w1.heap.size, 0, none⟩))]) (by simp [results, Ybaf.results7, go_sem, hcell, hsz]) rfl
    ⟨_, rfl, (hbel.setCell (Nat.le_refl _) _).alloc (by simp; omega) _⟩

set_option maxHeartbeats 400000 in
theorem parse_ok (s : ByteArray) (K : List UInt8) (w : World) (ev : Value) (hE : w.cell? ⟨0, 0, none⟩ = some ev) (h0 : 0 < w.heap.size) (hs : s.size ≤ 20000) (hd : Hx.decode s.data.toList = (K, .ok)) (hK : 32 ≤ K.length) :
    Calls Ybaf.prog 7 #[.string s] w fun e w' => e = .returned (.tuple #[.agg #[.slice (some ⟨w.heap.size + 1, 0, none⟩) K.length (s.size / 2)], .nilIface]) ∧
      (∀ j (hj : j < K.length), w'.cell? ⟨w.heap.size + 1, j, none⟩ = some (Bv K[j])) ∧ w.heap.size + 1 < w'.heap.size ∧ Below w.heap.size w w' := by
  have hE1 : ∀ o, (w.alloc o).cell? ⟨0, 0, none⟩ = some ev := fun o => by rw [World.cell?_alloc_lt _ _ _ h0]; exact hE
  have hlen := Hx.decode_len s.data.toList
  have Hd : Hid (Hx.decode s.data.toList = (K, .ok)) := hd
  rw [hd] at hlen
  rw [← Lib.size_eq] at hlen
  clear hd hE
  go_enter Ybaf.func7, Ybaf.ntmps7
  go_wp2_with fail
  refine (Ybaf.hex_DecodeString s _ ev (hE1 _) (by omega)).mono ?_
  rintro e w1 ⟨rfl, hrow, hb1⟩
  rw [Hd.out, errVal_ok]
  rw [Hd.out] at hrow
  obtain ⟨hsz, hcell, hfz, hbel⟩ := behind_box hb1
  have hcs : w.heap.size + 1 < w1.heap.size ∧ ∀ j (hj : j < K.length), w1.cell? ⟨w.heap.size + 1, j, none⟩ = some (Bv K[j]) := by
    have e : (w.alloc (.cells #[.slice none 0 0] 27)).heap.size = w.heap.size + 1 := by simp
    rw [e] at hrow
    exact row_cells hrow hlen
  have Hcs : Hid (w.heap.size + 1 < w1.heap.size ∧ ∀ j (hj : j < K.length), w1.cell? ⟨w.heap.size + 1, j, none⟩ = some (Bv K[j])) := hcs
  clear hE1 hrow hb1 hcs
  go_wp2
  refine bodyPost_ret (v := .tuple #[.agg #[.slice (some ⟨w.heap.size + 1, 0, none⟩) K.length (s.size / 2)], .nilIface]) (by simp [results, Ybaf.results7, go_sem, hcell]) rfl
    ⟨rfl, ?_, ?_, (hbel.setCell (Nat.le_refl _) _)⟩
  · intro j hj
    rw [World.cell?_setCell_other _ _ _ _ (by intro h; injection h with h; omega)]
    exact Hcs.out.2 j hj
  · simpa using Hcs.out.1
end Go.Proofs.YbulkwecFmt
