/- The walk of LawS1120CRoundTrip. -/
import Derived.Test.YbulkwecFmtShort
import Derived.Test.YbulkwecFmtEq
namespace Go.Proofs.YbulkwecFmt
open Go.RowKit Go.Lib Go.Extern.Stop Go.Stop Go.Extern
set_option linter.unusedVariables false
theorem nil_eq_nil' (w : World) : (binOp .eql 22 (.slice none 0 0) (.slice none 0 0)).run Ybaf.prog w = .ok (.bool true) w := by kernel_rfl

set_option maxHeartbeats 400000 in
theorem rt_walk (F : Interp) (a : Option Addr) (cap : Nat) (D : List UInt8) (pad mask : Int) (w : World) (ev : Value) (hF : F.answers w.tape) (hE : w.cell? ⟨0, 0, none⟩ = some ev) (h0 : 0 < w.heap.size) (hD : IsB w a cap D) (hlen : D.length ≤ 4096)
    (p0 : 0 ≤ pad) (p1 : pad ≤ 255) (m0 : 0 ≤ mask) (m1 : mask ≤ 18446744073709551615) :
    Calls Ybaf.prog 3 #[.slice a D.length cap, .int .u8 pad, .int .u64 mask] w fun e w' => e = .returned (.bool true) ∧ Below w.heap.size w w' := by
  have HF : Hid (F.answers w.tape) := hF
  clear hF
  go_enter Ybaf.func3, Ybaf.ntmps3
  go_wp2_with fail
  refine (key_any a cap D pad _ hD hlen p0 p1).mono ?_
  rintro e w1 ⟨n, hn, rfl, hown1, hb1⟩
  have hg1 : w.heap.size < w1.heap.size := (hown1.lt _ rfl).2
  have hKl := keyL_length D n
  have hc1 : ∀ j (hj : j < (keyL D n).length), w1.cell? ⟨w.heap.size, j, none⟩ = some (Bv (keyL D n)[j]) := fun j hj =>
    (hown1.cellAt j (by omega)).trans (by rw [List.getElem?_map, List.getElem?_eq_getElem hj]; rfl)
  rw [← hKl]
  obtain ⟨K, hK⟩ : ∃ K, K = keyL D n := ⟨_, rfl⟩
  rw [← hK] at hc1 hKl ⊢
  have hKlen : K.length ≤ 4200 := by omega
  clear hown1 hK hKl hD hlen
  have Hc1 : Hid (∀ j (hj : j < K.length), w1.cell? ⟨w.heap.size, j, none⟩ = some (Bv K[j])) := hc1
  clear hc1
  go_wp2_with fail
  refine (hex_any w.heap.size K.length K mask _ hg1 Hc1.out (by omega) (Nat.le_refl _) m0 m1).mono ?_
  rintro e w2 ⟨T, rfl, hT, hb2⟩
  have hTl := mixed_length K T hT
  have hsz : (ByteArray.mk T.toArray).size = T.length := by simp [ByteArray.size]
  have hdec : Hid (Hx.decode (ByteArray.mk T.toArray).data.toList = (K, .ok)) := by
    show Hx.decode T.toArray.toList = (K, .ok)
    rw [List.toList_toArray]; exact mixed_decode K T hT
  have hss : (ByteArray.mk T.toArray).size ≤ 8400 := by omega
  clear hTl hsz hT
  generalize ByteArray.mk T.toArray = s at *
  have hbel2 : Below w.heap.size w w2 := hb1.trans (hb2.mono (by omega))
  have hE2 : w2.cell? ⟨0, 0, none⟩ = some ev := (hbel2.cell (by exact h0)).trans hE
  have Hc2 : Hid (∀ j (hj : j < K.length), w2.cell? ⟨w.heap.size, j, none⟩ = some (Bv K[j])) := fun j hj => (hb2.cell (by exact hg1)).trans (Hc1.out j hj)
  have hg2 : w.heap.size < w2.heap.size := Nat.lt_of_lt_of_le hg1 hb2.size
  clear Hc1 hb1 hb2 hg1 hE
  go_wp2_with fail
  by_cases h32 : K.length < 32
  · refine (parse_short F s K _ ev ?_ hE2 (Nat.lt_of_lt_of_le h0 hbel2.size) (by omega) hdec.out h32).mono ?_
    · rw [hbel2.tape]; exact HF.out
    rintro e w4 ⟨x, rfl, hb4⟩
    clear hE2
    have hnil := nil_eq_nil'
    go_wp2_with fail
    go_ret
    exact ⟨rfl, (hbel2.trans (hb4.mono hbel2.size)).alloc (Nat.le_trans hbel2.size hb4.size) _⟩
  · refine (parse_ok s K _ ev hE2 (Nat.lt_of_lt_of_le h0 hbel2.size) (by omega) hdec.out (by omega)).mono ?_
    rintro e w4 ⟨rfl, hc4, hg4, hb4⟩
    have hbel4 := hbel2.trans (hb4.mono hbel2.size)
    have HcA : Hid (∀ o, ∀ j (hj : j < K.length), (w4.alloc o).cell? ⟨w2.heap.size + 1, j, none⟩ = some (Bv K[j])) := fun o j hj => by
      rw [World.cell?_alloc_lt _ _ _ hg4]; exact hc4 j hj
    have HcB : Hid (∀ o, ∀ j (hj : j < K.length), (w4.alloc o).cell? ⟨w.heap.size, j, none⟩ = some (Bv K[j])) := fun o j hj => by
      rw [World.cell?_alloc_lt _ _ _ (Nat.lt_of_lt_of_le hg2 hb4.size), hb4.cell (by exact hg2)]; exact Hc2.out j hj
    clear hE2 hc4 Hc2 hb4
    go_wp2_with fail
    refine (eq_any _ _ _ _ K _ (HcA.out _) (HcB.out _) (by omega)).mono ?_
    rintro e w5 ⟨rfl, hb5⟩
    have h4 : Below w.heap.size w (w4.alloc (.cells #[.slice (some ⟨w2.heap.size + 1, 0, none⟩) K.length (s.size / 2)] 27)) := hbel4.alloc hbel4.size _
    go_wp2
    go_ret
    exact ⟨rfl, h4.trans (hb5.mono h4.size)⟩

set_option maxHeartbeats 400000 in
theorem rt_long (a : Option Addr) (len cap : Nat) (pad mask : Int) (w : World) (hlen : 4096 < (len : Int)) :
    Calls Ybaf.prog 3 #[.slice a len cap, .int .u8 pad, .int .u64 mask] w fun e w' => e = .returned (.bool true) ∧ Below w.heap.size w w' := by
  go_enter Ybaf.func3, Ybaf.ntmps3
  go_wp2
  go_ret
  exact ⟨rfl, Below.refl _ _⟩
end Go.Proofs.YbulkwecFmt
