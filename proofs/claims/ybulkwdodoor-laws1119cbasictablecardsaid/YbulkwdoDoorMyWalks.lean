/- Walks of seat b1119aD: the callees' contracts and the two laws. -/
import Derived.Test.YbulkwdoDoorRows
import Derived.WalkKit
import Derived.WalkSpells
import Derived.WalkLawsBesides
namespace Go.Proofs.YbulkwdoDoor
open Go.RowKit

/-- The table's flags, by kind. -/
def flagsOf : List Int := [0, 1, 2, 2, 2, 2, 2, 6, 6, 6, 6, 6, 6, 8, 8, 16, 16, 32, 0, 65, 66, 66, 72, 80, 96, 64]
/-- The flags that the law wants, by kind. -/
def wantOf : List Int := [0, 1, 26, 26, 26, 26, 26, 26, 26, 26, 26, 26, 26, 26, 26, 26, 26, 32, 0, 1, 26, 26, 26, 26, 32, 0]
/-- What operandClass makes of the flags. -/
def classOf (f : Int) : Int := if (bits .and .u8 f 26 != 0) = true then 26 else bits .and .u8 f 33
def flagAt (k : Int) : Int := flagsOf.getD k.toNat 0
def wantAt (k : Int) : Int := wantOf.getD k.toNat 0
theorem class_want : ∀ k : Nat, k < 26 → classOf (flagsOf.getD k 0) = wantOf.getD k 0 := by decide +kernel
theorem class_want_at (x : Int) (h0 : 0 ≤ x) (h1 : x < 26) : (classOf (flagAt x) == wantAt x) = true := by
  unfold flagAt wantAt
  rw [class_want x.toNat (by omega)]; simp

theorem method_basic (a : Addr) (w : World) : (method 166 26 (.pointer (some a)) "Underlying").run Ybad.prog w = .ok (25, .pointer (some a)) w := by kernel_rfl
theorem method_stand (a : Addr) (w : World) : (method 166 31 (.pointer (some a)) "Underlying").run Ybad.prog w = .ok (27, .pointer (some a)) w := by kernel_rfl
theorem assert_basic (a : Addr) (w : World) : (Instr.typeAssert (.iface 26 (.pointer (some a))) 33 26 true).run Ybad.prog w = .ok (.tuple #[.pointer (some a), .bool true]) w := by kernel_rfl
theorem assert_union (a : Addr) (w : World) : (Instr.typeAssert (.iface 36 (.pointer (some a))) 33 26 true).run Ybad.prog w = .ok (.tuple #[.pointer none, .bool false]) w := by kernel_rfl
theorem assert_nil (w : World) : (Instr.typeAssert .nilIface 33 26 true).run Ybad.prog w = .ok (.tuple #[.pointer none, .bool false]) w := by kernel_rfl

set_option maxHeartbeats 400000 in
theorem kind_any (x : Int) (w : World) (h0 : 0 ≤ x) (h1 : x ≤ 255) :
    Calls Ybad.prog 5 #[.int .u8 x] w fun e w' => e = .returned (.int .u8 (x % 26)) ∧ w' = w := by
  go_enter Ybad.func5, Ybad.ntmps5
  go_wp2
  go_ret
  exact ⟨rfl, rfl⟩

set_option maxHeartbeats 400000 in
theorem basicOf_basic (a : Addr) (w : World)  :
    Calls Ybad.prog 8 #[.iface 26 (.pointer (some a))] w fun e w' => e = .returned (.pointer (some a)) ∧ w' = w := by
  have hm := method_basic
  have ha := assert_basic
  go_enter Ybad.func8, Ybad.ntmps8
  go_wp2
  go_ret
  exact ⟨rfl, rfl⟩

set_option maxHeartbeats 400000 in
theorem class_basic (b : Nat) (k f : Int) (w : World) (h0 : 0 ≤ k) (h1 : k < 26) (hk : w.cell? ⟨b, 0, none⟩ = some (.int .u8 k)) (hf : w.cell? ⟨0, k.toNat * 3 + 1, none⟩ = some (.int .u8 f)) :
    Calls Ybad.prog 6 #[.iface 26 (.pointer (some ⟨b, 0, none⟩))] w fun e w' => e = .returned (.int .u8 (classOf f)) ∧ w' = w := by
  unfold classOf
  go_enter Ybad.func6, Ybad.ntmps6
  go_wp2_with (go_at_call 8; refine (basicOf_basic _ _).mono ?_; rintro e w' ⟨rfl, rfl⟩)
  all_goals
    go_ret
    exact ⟨rfl, rfl⟩


theorem below26 (k : Int) (h0 : 0 ≤ k) (h1 : k < 26) : k = 0 ∨ k = 1 ∨ k = 2 ∨ k = 3 ∨ k = 4 ∨ k = 5 ∨ k = 6 ∨ k = 7 ∨ k = 8 ∨ k = 9 ∨ k = 10 ∨ k = 11 ∨ k = 12 ∨ k = 13 ∨ k = 14 ∨ k = 15 ∨ k = 16 ∨ k = 17 ∨ k = 18 ∨ k = 19 ∨ k = 20 ∨ k = 21 ∨ k = 22 ∨ k = 23 ∨ k = 24 ∨ k = 25 := by omega

set_option maxHeartbeats 2000000 in
theorem want_any (k : Int) (w : World) (h0 : 0 ≤ k) (h1 : k < 26) :
    Calls Ybad.prog 7 #[.int .u8 k] w fun e w' => e = .returned (.int .u8 (wantAt k)) ∧ w' = w := by
  have hd := below26 k h0 h1
  clear h0 h1
  rcases hd with rfl | rfl | rfl | rfl | rfl | rfl | rfl | rfl | rfl | rfl | rfl | rfl | rfl | rfl | rfl | rfl | rfl | rfl | rfl | rfl | rfl | rfl | rfl | rfl | rfl | rfl
  all_goals
    go_enter Ybad.func7, Ybad.ntmps7
    go_wp2
    go_ret
    exact ⟨rfl, rfl⟩

end Go.Proofs.YbulkwdoDoor
