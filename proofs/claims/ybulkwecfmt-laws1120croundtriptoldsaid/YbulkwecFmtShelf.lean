/- The shelf's contract of hex.DecodeString at this dump, as the kit's laying tool writes it in plain words. -/
import Derived.Shelf.Hex.Decode
import Derived.Test.YbulkwecFmtProg
namespace Go.Proofs
open Go.Shelf
def Ybaf.laysPah43_ren : Go.Shelf.Ren := ⟨fun | 43 => 9 | 42 => 12 | 44 => 13 | n => n, fun | 9 => 9 | 30 => 22 | 35 => 29 | 3 => 3 | 38 => 42 | 4 => 4 | 0 => 0 | 5 => 5 | 47 => 49 | 46 => 36 | 45 => 51 | n => n, fun | 0 => 0 | n => n⟩
theorem Ybaf.laysPah43 : Go.Proofs.Lays.ph43 Ybaf.prog Ybaf.laysPah43_ren := {
  mixed := by kernel_rfl
  f42 := Ybaf.func12.trans (congrArg some (by kernel_rfl))
  f43 := Ybaf.func9.trans (congrArg some (by kernel_rfl))
  f44 := Ybaf.func13.trans (congrArg some (by kernel_rfl))
  t0 := Ybaf.underlying0
  a0 := Ybaf.isAgg0
  z0 := Ybaf.sizeOf0
  v0 := Ybaf.zeroValue0
  t3 := Ybaf.underlying3
  a3 := Ybaf.isAgg3
  z3 := Ybaf.sizeOf3
  v3 := Ybaf.zeroValue3
  t4 := Ybaf.underlying4
  a4 := Ybaf.isAgg4
  z4 := Ybaf.sizeOf4
  v4 := Ybaf.zeroValue4
  t5 := Ybaf.underlying5
  a5 := Ybaf.isAgg5
  z5 := Ybaf.sizeOf5
  v5 := Ybaf.zeroValue5
  t9 := Ybaf.underlying9
  a9 := Ybaf.isAgg9
  z9 := Ybaf.sizeOf9
  v9 := Ybaf.zeroValue9
  t30 := Ybaf.underlying22
  a30 := Ybaf.isAgg22
  z30 := Ybaf.sizeOf22
  v30 := Ybaf.zeroValue22
  t35 := Ybaf.underlying29
  a35 := Ybaf.isAgg29
  z35 := Ybaf.sizeOf29
  v35 := Ybaf.zeroValue29
  t38 := Ybaf.underlying42
  a38 := Ybaf.isAgg42
  z38 := Ybaf.sizeOf42
  v38 := Ybaf.zeroValue42
  t45 := Ybaf.underlying51
  a45 := Ybaf.isAgg51
  z45 := Ybaf.sizeOf51
  v45 := Ybaf.zeroValue51
  t46 := Ybaf.underlying36
  a46 := Ybaf.isAgg36
  z46 := Ybaf.sizeOf36
  v46 := Ybaf.zeroValue36
  t47 := Ybaf.underlying49
  a47 := Ybaf.isAgg49
  z47 := Ybaf.sizeOf49
  v47 := Ybaf.zeroValue49
  g0 := by kernel_rfl
  info5 := by kernel_rfl }
open Go.RowKit Go.Lib in
theorem Ybaf.hex_DecodeString (s : ByteArray) (w : World) (ev : Value) (hE : w.cell? ⟨0, 0, none⟩ = some ev) (hbig : s.size ≤ 281474976710656) :
    Calls Ybaf.prog 9 #[.string s] w fun e w' =>
      e = .returned (.tuple #[.slice (some ⟨w.heap.size, 0, none⟩) (Hx.decode s.data.toList).1.length (s.size / 2), Hx.errVal 49 ev (Hx.decode s.data.toList).2]) ∧
      w'.rowIs w.heap.size 5 (s.size / 2) (Hx.rowP (fun _ => .int .u8 0) 0 (Hx.decode s.data.toList).1) ∧ Below w.heap.size w w' := Any.hex_DecodeString Ybaf.laysPah43 s w ev hE hbig
end Go.Proofs
