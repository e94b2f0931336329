/- The walk of LawS1124ADigitPrefix. -/
import Derived.Test.YbulkwggSkip
import Derived.Room.AppendFits
namespace Go.Proofs.Ybulkwgg
open Go.RowKit Go.Lib
set_option linter.unusedVariables false
theorem info5 : (Yba.prog.info? 5).map (fun i => (i.zero, i.size, i.bytes)) = some (some (.int .u8 0), 1, 1) := by kernel_rfl
/-- A byte, as a value. -/
abbrev Bv (b : UInt8) : Value := .int .u8 (b.toNat : Int)
theorem one_oneCell (n : Int) : ∀ u ∈ [Value.int .u8 n], u.oneCell' = true := by
  intro u hu; simp at hu; subst hu; rfl
theorem cell_block_lt {w : World} {a : Addr} {v : Value} (h : w.cell? a = some v) : a.block < w.heap.size := by
  unfold World.cell? at h
  cases hh : w.heap[a.block]? with
  | none => rw [hh] at h; cases h
  | some o => exact (Array.getElem?_eq_some_iff.1 hh).1

theorem skip_zero (s : ByteArray) (w : World) (hs : s.size ≤ 4096) : Calls Yba.prog 8 #[.string s, .int .i64 0] w fun e w' => e = .returned (.int .i64 (run s.data.toList : Int)) ∧ w' = w := by
  refine (skip_any s 0 w hs (Nat.zero_le _)).mono ?_
  rintro e w' ⟨rfl, rfl⟩
  exact ⟨ret_int (by simp), rfl⟩
theorem skip_one (s : ByteArray) (w : World) (hs : s.size ≤ 4096) (h1 : 1 ≤ s.size) : Calls Yba.prog 8 #[.string s, .int .i64 1] w fun e w' => e = .returned (.int .i64 (1 + (run (s.data.toList.drop 1) : Int))) ∧ w' = w := by
  refine (skip_any s 1 w hs h1).mono ?_
  rintro e w' ⟨rfl, rfl⟩
  exact ⟨ret_int (by simp), rfl⟩

/-- The digits made of the first k numbers. -/
def digs (zs : List Int) (k : Nat) : List UInt8 := (zs.take k).map dig
theorem digs_zero (zs : List Int) : digs zs 0 = [] := by simp [digs]
theorem digs_length (zs : List Int) (k : Nat) (h : k ≤ zs.length) : (digs zs k).length = k := by simp [digs]; omega
theorem digs_all (zs : List Int) (k : Nat) : ∀ c ∈ digs zs k, digB c = true := by
  intro c hc
  obtain ⟨z, _, rfl⟩ := List.mem_map.1 hc
  exact dig_digB z
theorem digs_step (zs : List Int) (k : Nat) (hk : k < zs.length) (h0 : 0 ≤ zs.getD k 0) : (digs zs k).map Bv ++ [Value.int .u8 (48 + zs.getD k 0 % 10)] = (digs zs (k + 1)).map Bv := by
  unfold digs
  rw [List.take_succ_eq_append_getElem hk, List.map_append, List.map_append]
  have e : zs.getD k 0 = zs[k] := by rw [List.getD_eq_getElem?_getD, List.getElem?_eq_getElem hk]; rfl
  rw [e] at h0 ⊢
  simp [dig_toNat _ h0]

theorem ux_run (t : ByteArray) : run ((ByteArray.mk #[120] ++ t).data.toList.drop 1) = run t.data.toList := by simp
theorem ux_size (t : ByteArray) : (ByteArray.mk #[120] ++ t).size = 1 + t.size := by
  rw [ByteArray.size_append]; rfl

set_option maxHeartbeats 800000 in
theorem pre_walk (a : Option Addr) (len cap : Nat) (zs : List Int) (s : ByteArray) (w : World) (hl : len ≤ 1024) (hs : s.size ≤ 1024) (hzl : len ≤ zs.length)
    (hz : ∀ k, k < len → ∃ b off, a = some ⟨b, off, none⟩ ∧ w.cell? ⟨b, off + k, none⟩ = some (.int .u8 (zs.getD k 0)) ∧ 0 ≤ zs.getD k 0 ∧ zs.getD k 0 ≤ 255) (hlc : len ≤ cap) :
    Calls Yba.prog 4 #[.slice a len cap, .string s] w fun e w' => e = .returned (.bool true) ∧ Below w.heap.size w w' := by
  obtain ⟨i0, hi, hz0, hz1, hz2⟩ := info_parts info5
  go_enter Yba.func4, Yba.ntmps4
  go_wp2_with (at_make; refine wpList_make_own _ rfl _ _ 25 rfl w.heap.size 5 i0 (.int .u8 0) 1 Yba.underlying25 hi hz0 hz1 _ _ _ (len + s.size + 1) rfl rfl (by omega) ?b2 ?b3 (Nat.le_refl _) ?_)
  case b2 => rw [hz2]; omega
  case b3 => unfold maxLen; omega
  intro w0 hown0 hgrow0
  have hb0 : Below w.heap.size w w0 := (Below.refl _ _).grown hgrow0 (Nat.le_refl _) (fun k h => by cases h)
  clear hgrow0
  have Hz : Hid (∀ k, k < len → ∃ b off, a = some ⟨b, off, none⟩ ∧ w.cell? ⟨b, off + k, none⟩ = some (.int .u8 (zs.getD k 0)) ∧ 0 ≤ zs.getD k 0 ∧ zs.getD k 0 ≤ 255) := hz
  clear hz
  go_wp2_with fail
  go_loopw [5, 6] (fun out i wr => ∃ k : Nat, k ≤ len ∧ i = .int .i64 k ∧ out = .slice (some ⟨w.heap.size, 0, none⟩) k (len + s.size + 1) ∧
      wr.ownsRow w.heap.size 5 1 (.slice (some ⟨w.heap.size, 0, none⟩) k (len + s.size + 1)) k ((digs zs k).map Bv) ∧ Below w.heap.size w wr) (fun _ i _ => len - (intOf i).toNat)
  case atStart => exact ⟨0, Nat.zero_le _, rfl, rfl, by rw [digs_zero]; exact hown0, hb0⟩
  case round =>
    obtain ⟨k, hk, rfl, rfl, hown, hb⟩ := hrel
    clear hown0 hb0
    by_cases hlt : k < len
    · obtain ⟨b, off, rfl, hc, x0, x1⟩ := Hz.out k hlt
      have hc' := (hb.cell (cell_block_lt hc)).trans hc
      have hstep := digs_step zs k (by omega) x0
      generalize zs.getD k 0 = x at *
      have Hstep : Hid ((digs zs k).map Bv ++ [Value.int .u8 (48 + x % 10)] = (digs zs (k + 1)).map Bv) := hstep
      clear hstep hc Hz
      go_wp2_with (at_builtin; refine wpList_append_fits _ rfl (.tmp 30) (.tmp 37) 25 rfl w.heap.size 5 i0 1 Yba.underlying25 hi hz1 w.heap.size k (len + s.size + 1) _ rfl (hown.alloc _) ⟨wr.heap.size, 0, none⟩ 1 1 [.int .u8 (48 + x % 10)] rfl rfl (cell_one_new _ _ _) (one_oneCell _) (by omega) ?_)
      intro w2 hown2 hgrow2
      rw [Hstep.out] at hown2
      have hb2 : Below w.heap.size w w2 := (hb.alloc hb.size _).grown hgrow2 (by simp; have := hb.size; omega) (fun k hk => by cases hk; exact Nat.le_refl _)
      clear hown hb hgrow2
      go_wp2
      go_roundw
      case rel => exact ⟨k + 1, by omega, by go_num, rfl, hown2, hb2⟩
      case measure => simp [intOf]; omega
    · obtain rfl : k = len := by omega
      clear Hz
      go_wp2_with (at_builtin; refine wpList_append_fits_string _ rfl (.tmp 39) (.tmp 40) 25 9 rfl w.heap.size 5 i0 Yba.underlying25 Yba.underlying9 hi hz1 (some ⟨w.heap.size, 0, none⟩) k (k + s.size + 1) _ rfl hown s rfl (by omega) (by omega) ?_)
      intro w2 hown2 hgrow2
      have hb2 : Below w.heap.size w w2 := hb.grown hgrow2 hb.size (fun k hk => by cases hk; exact Nat.le_refl _)
      obtain ⟨T, hT⟩ : ∃ T : List UInt8, T = digs zs k ++ s.data.toList := ⟨_, rfl⟩
      have hTB : (digs zs k).map Bv ++ strCells s = T.map Bv := by rw [hT, List.map_append]; rfl
      have hTl : T.length = k + s.size := by rw [hT, List.length_append, digs_length zs k hzl]; simp
      have hTr : run T = k + run s.data.toList := by rw [hT, run_append _ _ (digs_all zs k), digs_length zs k hzl]
      rw [hTB] at hown2
      have hconv : (convert 25 9 (.slice (some ⟨w.heap.size, 0, none⟩) (k + s.size) (k + s.size + 1))).run Yba.prog w2 = .ok (.string ⟨T.toArray⟩) w2 := by
        rw [← hTl]
        refine run_convert_bytes_back w2 25 9 5 ⟨w.heap.size, 0, none⟩ _ T Yba.underlying25 Yba.underlying5 Yba.underlying9 ?_
        intro j hj
        exact hown2.cells rfl j (Bv T[j]) (by rw [List.getElem?_map, List.getElem?_eq_getElem hj]; rfl)
      have htz : (ByteArray.mk T.toArray).size = k + s.size := by rw [← hTl]; simp [ByteArray.size]
      have htd : (ByteArray.mk T.toArray).data.toList = T := by simp
      generalize ByteArray.mk T.toArray = t at *
      have hrun : run t.data.toList = k + run s.data.toList := by rw [htd]; exact hTr
      have hrl := run_le s.data.toList
      have hsl : s.data.toList.length = s.size := by simp
      have hts : t.size ≤ 4000 := by omega
      have hux := ux_run t
      have hus := ux_size t
      clear hown hgrow2 hown2 hb hTB htd hTl hTr hT htz hz0 hz1 hz2 hi
      generalize hrt : run t.data.toList = rt at *
      generalize hrs : run s.data.toList = rs at *
      have Hrt : Hid (run t.data.toList = rt) := hrt
      have Hrs : Hid (run s.data.toList = rs) := hrs
      have Hux : Hid (run ((ByteArray.mk #[120] ++ t).data.toList.drop 1) = rt) := hux
      clear hrt hrs hux
      have htest1 : ((rt : Int) != (k : Int) + (rs : Int)) = false := by simp; omega
      have htest2 : (1 + (rt : Int) == 1 + (k : Int) + (rs : Int)) = true := by simp; omega
      have hrs2 : rs ≤ 1024 := by omega
      have hrt2 : rt ≤ 2048 := by omega
      clear hrun hrl hsl
      have Hus : Hid ((ByteArray.mk #[120] ++ t).size = 1 + t.size) := hus
      clear hus
      go_wp2_with fail
      refine (skip_zero t _ (by omega)).mono ?_
      rintro e w3 ⟨rfl, hw3⟩
      subst hw3
      rw [Hrt.out]
      go_wp2_with fail
      refine (skip_zero s _ (by omega)).mono ?_
      rintro e w4 ⟨rfl, hw4⟩
      subst hw4
      rw [Hrs.out]
      go_wp2_with fail
      refine (skip_one _ _ (by rw [Hus.out]; omega) (by rw [Hus.out]; omega)).mono ?_
      rintro e w5 ⟨rfl, hw5⟩
      subst hw5
      rw [Hux.out]
      go_wp2_with fail
      refine (skip_zero s _ (by omega)).mono ?_
      rintro e w6 ⟨rfl, hw6⟩
      subst hw6
      rw [Hrs.out]
      go_wp2_with fail
      go_ret
      exact ⟨rfl, hb2⟩

set_option maxHeartbeats 400000 in
theorem pre_long (a : Option Addr) (len cap : Nat) (s : ByteArray) (w : World) (hs : s.size ≤ maxLen) (h : 1024 < len ∨ 1024 < s.size) :
    Calls Yba.prog 4 #[.slice a len cap, .string s] w fun e w' => e = .returned (.bool true) ∧ Below w.heap.size w w' := by
  unfold maxLen at hs
  by_cases h1 : 1024 < (len : Int)
  · go_enter Yba.func4, Yba.ntmps4
    go_wp2
    go_ret
    exact ⟨rfl, Below.refl _ _⟩
  · have h2 : 1024 < (s.size : Int) := by omega
    go_enter Yba.func4, Yba.ntmps4
    go_wp2
    go_ret
    exact ⟨rfl, Below.refl _ _⟩
end Go.Proofs.Ybulkwgg
