/- The callees of LawS1119CStandIn: a stand-in's Underlying, basicOf and operandClass through it. -/
import Derived.Test.YbulkwdoDoorMyWalks
namespace Go.Proofs.YbulkwdoDoor
open Go.RowKit

set_option maxHeartbeats 400000 in
theorem under_stand (b : Nat) (u : Value) (n : Int) (w : World) (h0 : 0 ≤ n) (h1 : n ≤ 100) (hu : w.cell? ⟨b, 0, none⟩ = some u) (hn : w.cell? ⟨b, 1, none⟩ = some (.int .i64 n)) (hz : w.frozen? ⟨b, 1, none⟩ = false) :
    Calls Ybad.prog 27 #[.pointer (some ⟨b, 0, none⟩)] w fun e w' => e = .returned u ∧ w' = w.setCell ⟨b, 1, none⟩ (.int .i64 (n + 1)) := by
  go_enter Ybad.func27, Ybad.ntmps27
  go_wp2
  go_ret
  exact ⟨rfl, rfl⟩

set_option maxHeartbeats 400000 in
theorem basicOf_stand (b : Nat) (u r : Value) (ok : Bool) (w : World) (hu : w.cell? ⟨b, 0, none⟩ = some u) (hn : w.cell? ⟨b, 1, none⟩ = some (.int .i64 0)) (hz : w.frozen? ⟨b, 1, none⟩ = false)
    (hass : ∀ w : World, (Instr.typeAssert u 33 26 true).run Ybad.prog w = .ok (.tuple #[r, .bool ok]) w) :
    Calls Ybad.prog 8 #[.iface 31 (.pointer (some ⟨b, 0, none⟩))] w fun e w' => e = .returned r ∧ w' = w.setCell ⟨b, 1, none⟩ (.int .i64 1) := by
  have hm := method_stand
  go_enter Ybad.func8, Ybad.ntmps8
  go_wp2_with (go_at_call 27; refine (under_stand b u 0 _ (by omega) (by omega) hu hn hz).mono ?_; rintro e w1 ⟨rfl, hw1⟩; subst hw1)
  go_ret
  exact ⟨rfl, rfl⟩

set_option maxHeartbeats 400000 in
theorem class_stand_none (b : Nat) (u : Value) (w : World) (hu : w.cell? ⟨b, 0, none⟩ = some u) (hn : w.cell? ⟨b, 1, none⟩ = some (.int .i64 0)) (hz : w.frozen? ⟨b, 1, none⟩ = false)
    (hass : ∀ w : World, (Instr.typeAssert u 33 26 true).run Ybad.prog w = .ok (.tuple #[.pointer none, .bool false]) w) :
    Calls Ybad.prog 6 #[.iface 31 (.pointer (some ⟨b, 0, none⟩))] w fun e w' => e = .returned (.int .u8 0) ∧ w' = w.setCell ⟨b, 1, none⟩ (.int .i64 1) := by
  go_enter Ybad.func6, Ybad.ntmps6
  go_wp2_with (go_at_call 8; refine (basicOf_stand b u _ _ _ hu hn hz hass).mono ?_; rintro e w1 ⟨rfl, hw1⟩; subst hw1)
  go_ret
  exact ⟨rfl, rfl⟩

set_option maxHeartbeats 400000 in
theorem class_stand_basic (b c : Nat) (k f : Int) (w : World) (h0 : 0 ≤ k) (h1 : k < 26) (hbc : c ≠ b) (hb0 : 0 < b) (hu : w.cell? ⟨b, 0, none⟩ = some (.iface 26 (.pointer (some ⟨c, 0, none⟩)))) (hn : w.cell? ⟨b, 1, none⟩ = some (.int .i64 0)) (hz : w.frozen? ⟨b, 1, none⟩ = false)
    (hk : w.cell? ⟨c, 0, none⟩ = some (.int .u8 k)) (hf : w.cell? ⟨0, k.toNat * 3 + 1, none⟩ = some (.int .u8 f)) :
    Calls Ybad.prog 6 #[.iface 31 (.pointer (some ⟨b, 0, none⟩))] w fun e w' => e = .returned (.int .u8 (classOf f)) ∧ w' = w.setCell ⟨b, 1, none⟩ (.int .i64 1) := by
  have hk' : (w.setCell ⟨b, 1, none⟩ (.int .i64 1)).cell? ⟨c, 0, none⟩ = some (.int .u8 k) := by
    rw [World.cell?_setCell_other _ _ _ _ (by intro h; injection h with h; exact hbc h.symm)]; exact hk
  have hf' : (w.setCell ⟨b, 1, none⟩ (.int .i64 1)).cell? ⟨0, k.toNat * 3 + 1, none⟩ = some (.int .u8 f) := by
    rw [World.cell?_setCell_other _ _ _ _ (by intro h; injection h with h; omega)]; exact hf


  unfold classOf
  go_enter Ybad.func6, Ybad.ntmps6
  go_wp2_with (go_at_call 8; refine (basicOf_stand b _ _ _ _ hu hn hz (assert_basic _)).mono ?_; rintro e w1 ⟨rfl, hw1⟩; subst hw1)
  all_goals
    go_ret
    exact ⟨rfl, rfl⟩
end Go.Proofs.YbulkwdoDoor
