/- fmt.Errorf over this dump; ParseSecret at a key that is too short. -/
import Derived.Test.YbulkwecFmtParse
import Derived.Stop.CallBack
import Derived.Stop.IfaceNil
namespace Go.Proofs.YbulkwecFmt
open Go.RowKit Go.Lib Go.Extern.Stop Go.Stop Go.Extern
set_option linter.unusedVariables false

-- fmt.errorf: function 14: a plain stop
theorem f_call14 (args : Array Value) (w : World) : (callFunc 14 args).run Ybaf.prog w = ((FmtStop.errorf #[9, 47] #[29] args).run Ybaf.prog w).andThen fun v w' => .ok (.value v) w' :=
  run_callFunc_extern Ybaf.func14 (by kernel_rfl) (by kernel_rfl) (by kernel_rfl) (by kernel_rfl) args w
theorem f_guard (name : String) (w : World) : (FmtStop.guard name).run Ybaf.prog w = .ok () w := by kernel_rfl
theorem f_fmt : FmtStop.printed? ⟨#[115, 101, 99, 114, 101, 116, 32, 105, 115, 32, 37, 100, 32, 98, 121, 116, 101, 115, 44, 32, 102, 101, 119, 101, 114, 32, 116, 104, 97, 110, 32, 37, 100]⟩ 2 = some [(0, 100, false), (1, 100, false)] := by kernel_rfl
theorem f_fmtr (w : World) : (FmtDoors.printed ⟨#[115, 101, 99, 114, 101, 116, 32, 105, 115, 32, 37, 100, 32, 98, 121, 116, 101, 115, 44, 32, 102, 101, 119, 101, 114, 32, 116, 104, 97, 110, 32, 37, 100]⟩ 2).run Ybaf.prog w = .ok [(0, 100, false), (1, 100, false)] w := by kernel_rfl
theorem f_fmtr0 (w : World) : (FmtDoors.printed ⟨#[115, 101, 99, 114, 101, 116, 32, 105, 115, 32, 37, 100, 32, 98, 121, 116, 101, 115, 44, 32, 102, 101, 119, 101, 114, 32, 116, 104, 97, 110, 32, 37, 100]⟩ 0).run Ybaf.prog w = .ok [] w := by kernel_rfl
def shape3 : List UInt8 := [5, 3, 0, 0, 0, 0, 0, 0, 0, 105, 110, 116]
theorem f_op3 (name : String) (x : Int) (w : World) : (FmtStop.operand name false 100 false (.iface 3 (.int .i64 x))).run Ybaf.prog w = .ok (shape3, Go.Extern.Stop.digits 8 (x % 2 ^ 64).toNat) w := by kernel_rfl
theorem f_op3w (name : String) (x : Int) (w : World) : (FmtStop.operand name true 100 false (.iface 3 (.int .i64 x))).run Ybaf.prog w = .ok (shape3, Go.Extern.Stop.digits 8 (x % 2 ^ 64).toNat) w := by kernel_rfl
theorem f_strict3 (name : String) (x : Int) (w : World) : (FmtStop.strict name (.iface 3 (.int .i64 x))).run Ybaf.prog w = .ok (shape3, Go.Extern.Stop.digits 8 (x % 2 ^ 64).toNat) w := by kernel_rfl
theorem f_ptr44 (w : World) : (FmtStop.ptrTo "errors.errorString").run Ybaf.prog w = .ok 44 w := by kernel_rfl
theorem f_elem44 (w : World) : (elemOf 44).run Ybaf.prog w = .ok 46 w := by kernel_rfl
theorem f_isError44 (w : World) : (FmtDoors.textMethod 44 "Error").run Ybaf.prog w = .ok true w := by kernel_rfl

set_option maxHeartbeats 800000 in
theorem errorf_any (F : Interp) (n : Int) (b : Nat) (w : World) (hF : F.answers w.tape) (hc0 : w.cell? ⟨b, 0, none⟩ = some (.iface 3 (.int .i64 n))) (hc1 : w.cell? ⟨b, 1, none⟩ = some (.iface 3 (.int .i64 32))) :
    Calls Ybaf.prog 11 #[.string ⟨#[115, 101, 99, 114, 101, 116, 32, 105, 115, 32, 37, 100, 32, 98, 121, 116, 101, 115, 44, 32, 102, 101, 119, 101, 114, 32, 116, 104, 97, 110, 32, 37, 100]⟩, .slice (some ⟨b, 0, none⟩) 2 2] w fun e w' => ∃ x : Value, e = .returned (.iface 44 x) ∧ Below w.heap.size w w' := by
  have hF' := answers_open hF
  have h1 := f_call14
  have h2 := f_guard
  have h3 := f_fmt
  have h4 := f_fmtr
  have h5 := f_op3w
  have h6 := f_ptr44
  have h7 := f_elem44
  have h8 := f_isError44
  have h9 := f_op3
  go_enter Ybaf.func11, Ybaf.ntmps11
  go_wp2
  go_ret
  exact ⟨⟨_, rfl⟩, ((Below.refl _ _).alloc (Nat.le_refl _) _).drew⟩

theorem behind_more {w w1 w2 : World} {v : Value} {o : Obj} (hs : w.heap.size < w1.heap.size) (hc : w1.cell? ⟨w.heap.size, 0, none⟩ = some v) (hf : w1.frozen? ⟨w.heap.size, 0, none⟩ = false) (hb : Below w.heap.size w w1)
    (hb2 : Below (w1.alloc o).heap.size (w1.alloc o) w2) : w.heap.size < w2.heap.size ∧ w2.cell? ⟨w.heap.size, 0, none⟩ = some v ∧ w2.frozen? ⟨w.heap.size, 0, none⟩ = false ∧ Below w.heap.size w w2 := by
  have h1 : Below w1.heap.size w1 (w1.alloc o) := (Below.refl _ _).alloc (Nat.le_refl _) _
  have h2 : Below w1.heap.size w1 w2 := h1.trans (hb2.mono h1.size)
  exact ⟨Nat.lt_of_lt_of_le hs h2.size, (h2.cell (by exact hs)).trans hc, (h2.frozen (by exact hs)).trans hf, hb.trans (h2.mono hb.size)⟩

set_option maxHeartbeats 800000 in
theorem parse_short (F : Interp) (s : ByteArray) (K : List UInt8) (w : World) (ev : Value) (hF : F.answers w.tape) (hE : w.cell? ⟨0, 0, none⟩ = some ev) (h0 : 0 < w.heap.size) (hs : s.size ≤ 20000) (hd : Hx.decode s.data.toList = (K, .ok)) (hK : K.length < 32) :
    Calls Ybaf.prog 7 #[.string s] w fun e w' => ∃ x : Value, e = .returned (.tuple #[.agg #[.slice none 0 0], .iface 44 x]) ∧ Below w.heap.size w w' := by
  have hE1 : ∀ o, (w.alloc o).cell? ⟨0, 0, none⟩ = some ev := fun o => by rw [World.cell?_alloc_lt _ _ _ h0]; exact hE
  have Hd : Hid (Hx.decode s.data.toList = (K, .ok)) := hd
  have HF : Hid (F.answers w.tape) := hF
  clear hd hE hF
  go_enter Ybaf.func7, Ybaf.ntmps7
  go_wp2_with fail
  refine (Ybaf.hex_DecodeString s _ ev (hE1 _) (by omega)).mono ?_
  rintro e w1 ⟨rfl, hrow, hb1⟩
  rw [Hd.out, errVal_ok]
  obtain ⟨hsz, hcell, hfz, hbel⟩ := behind_box hb1
  clear hE1 hrow hb1
  go_wp2_with fail
  refine (errorf_any F (K.length : Int) w1.heap.size _ ?_ ?_ ?_).mono ?_
  · show F.answers w1.tape
    rw [hbel.tape]; exact HF.out
  · simp
  · simp
  rintro e w2 ⟨x, rfl, hb2⟩
  obtain ⟨hsz2, hcell2, hfz2, hbel2⟩ := behind_more hsz hcell hfz hbel hb2
  clear hcell hfz hbel hb2 hsz
  go_wp2
  exact bodyPost_ret (v := .tuple #[.agg #[.slice none 0 0], .iface 44 x]) (by simp [results, Ybaf.results7, go_sem, hcell2]) rfl
    ⟨_, rfl, hbel2.setCell (Nat.le_refl _) _⟩
end Go.Proofs.YbulkwecFmt
