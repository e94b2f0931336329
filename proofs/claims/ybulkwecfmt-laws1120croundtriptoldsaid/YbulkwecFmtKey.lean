/- The walk of zzs1120ckey: the data, then the padding, in a row of the call's own. -/
import Derived.Test.YbulkwecFmtRows
import Derived.Test.YbulkwecFmtPlain
import Derived.WalkKit
import Derived.WalkSpells
import Derived.WalkLawsBesides
namespace Go.Proofs.YbulkwecFmt
open Go.RowKit
set_option linter.unusedVariables false
theorem info5 : (Ybaf.prog.info? 5).map (fun i => (i.zero, i.size, i.bytes)) = some (some (.int .u8 0), 1, 1) := by kernel_rfl
/-- A byte, as a value. -/
abbrev Bv (b : UInt8) : Value := .int .u8 (b.toNat : Int)
/-- The slice of bytes that came in: nil, or its first bytes are D. -/
def IsB (w : World) (a : Option Addr) (cap : Nat) (D : List UInt8) : Prop :=
  (a = none → D = [] ∧ cap = 0) ∧ ∀ x, a = some x → ∀ j u, (D.map Bv)[j]? = some u → w.cell? (x.add j) = some u
theorem padB_toNat (k : Nat) : ((padB k).toNat : Int) = ((k : Int) * 37 + 11) % 256 := by
  unfold padB; rw [UInt8.toNat_ofNat']; omega
theorem cell_block_lt {w : World} {a : Addr} {v : Value} (h : w.cell? a = some v) : a.block < w.heap.size := by
  unfold World.cell? at h
  cases hh : w.heap[a.block]? with
  | none => rw [hh] at h; cases h
  | some o => exact (Array.getElem?_eq_some_iff.1 hh).1
theorem bytes_oneCell (D : List UInt8) : ∀ u ∈ D.map Bv, u.oneCell' = true := by
  intro u hu
  obtain ⟨b, _, rfl⟩ := List.mem_map.1 hu
  rfl
theorem key_step (D : List UInt8) (k : Nat) : (keyL D k).map Bv ++ [Value.int .u8 (((k : Int) * 37 + 11) % 256)] = (keyL D (k + 1)).map Bv := by
  rw [keyL_succ, List.map_append, List.map_singleton]
  show _ = _ ++ [Value.int .u8 ((padB k).toNat : Int)]
  rw [padB_toNat]

set_option maxHeartbeats 400000 in
theorem key_any (a : Option Addr) (cap : Nat) (D : List UInt8) (pad : Int) (w : World) (hD : IsB w a cap D) (hlen : D.length ≤ 4096) (p0 : 0 ≤ pad) (p1 : pad ≤ 255) :
    Calls Ybaf.prog 5 #[.slice a D.length cap, .int .u8 pad] w fun e w' => ∃ n : Nat, n < 48 ∧ e = .returned (.slice (some ⟨w.heap.size, 0, none⟩) (D.length + n) (D.length + n)) ∧
      w'.ownsRow w.heap.size 5 1 (.slice (some ⟨w.heap.size, 0, none⟩) (D.length + n) (D.length + n)) (D.length + n) ((keyL D n).map Bv) ∧ Below w.heap.size w w' := by
  obtain ⟨i0, hi, hz0, hz1, hz2⟩ := info_parts info5
  obtain ⟨n, hn⟩ : ∃ n : Nat, (n : Int) = pad % 48 := ⟨(pad % 48).toNat, by omega⟩
  have hn48 : n < 48 := by omega
  have hn' : pad % 48 = (n : Int) := hn.symm
  clear hn
  go_enter Ybaf.func5, Ybaf.ntmps5
  go_wp2_with (at_make; refine wpList_make_own _ rfl _ _ 22 rfl w.heap.size 5 i0 (.int .u8 0) 1 Ybaf.underlying22 hi hz0 hz1 _ _ _ (D.length + n) rfl rfl (by omega) ?b2 ?b3 (Nat.le_refl _) ?_)
  case b2 => rw [hz2]; omega
  case b3 => unfold maxLen; omega
  intro w0 hown0 hgrow0
  have hb0 : Below w.heap.size w w0 := (Below.refl _ _).grown hgrow0 (Nat.le_refl _) (fun k h => by cases h)
  go_wp2_with (at_builtin; refine wpList_append_fits_any _ rfl (.tmp 16) (.tmp 17) 22 rfl w.heap.size 5 i0 1 Ybaf.underlying22 hi hz1 w.heap.size 0 (D.length + n) [] rfl hown0 a D.length cap (D.map Bv) rfl ?c1 ?c2 ?c3 ?c4 ?c5 ?_)
  case c1 => simp
  case c2 => intro h; obtain ⟨h1, h2⟩ := hD.1 h; subst h1; exact ⟨rfl, h2⟩
  case c3 =>
    intro ad had j u hj
    have hc := hD.2 ad had j u hj
    rw [hb0.cell (cell_block_lt hc)]
    exact hc
  case c4 => exact bytes_oneCell D
  case c5 => omega
  intro w1 hown1 hgrow1
  have hb1 : Below w.heap.size w w1 := hb0.grown hgrow1 hb0.size (fun k hk => by cases hk; exact Nat.le_refl _)
  clear hown0 hgrow0 hb0 hgrow1
  go_wp2_with fail
  go_loopw [6, 7] (fun out i wr => ∃ k : Nat, k ≤ n ∧ i = .int .i64 k ∧ out = .slice (some ⟨w.heap.size, 0, none⟩) (D.length + k) (D.length + n) ∧
      wr.ownsRow w.heap.size 5 1 (.slice (some ⟨w.heap.size, 0, none⟩) (D.length + k) (D.length + n)) (D.length + k) ((keyL D k).map Bv) ∧ Below w.heap.size w wr) (fun _ i _ => n - (intOf i).toNat)
  case atStart => exact ⟨0, Nat.zero_le _, rfl, rfl, by rw [keyL_zero]; exact hown1, hb1⟩
  case round =>
    obtain ⟨k, hk, rfl, rfl, hown, hb⟩ := hrel
    clear hown1 hb1
    by_cases hlt : k < n
    · go_wp2_with (at_builtin; refine wpList_append_fits _ rfl (.tmp 24) (.tmp 29) 22 rfl w.heap.size 5 i0 1 Ybaf.underlying22 hi hz1 w.heap.size (D.length + k) (D.length + n) _ rfl (hown.alloc _) ⟨wr.heap.size, 0, none⟩ 1 1 [.int .u8 (((k : Int) * 37 + 11) % 256)] rfl rfl ?d1 ?d2 (by omega) ?_)
      case d1 => exact cell_one_new _ _ _
      case d2 => intro u hu; simp at hu; subst hu; rfl
      intro w2 hown2 hgrow2
      rw [key_step] at hown2
      have hb2 : Below w.heap.size w w2 := (hb.alloc hb.size _).grown hgrow2 (by simp; have := hb.size; omega) (fun k hk => by cases hk; exact Nat.le_refl _)
      clear hown hb hgrow2
      go_wp2
      go_roundw
      case rel => exact ⟨k + 1, by omega, by go_num, rfl, hown2, hb2⟩
      case measure => simp [intOf]; omega
    · obtain rfl : k = n := by omega
      go_wp2
      go_ret
      exact ⟨k, hn48, rfl, hown, hb⟩
end Go.Proofs.YbulkwecFmt
