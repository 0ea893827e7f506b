/-
  Seat b6604770aF: encoding/hex.DecodeString's contract of the guide's shelf, laid at this program in plain words (the tool lay-plain wrote the laying).
-/
import Derived.Shelf.Hex.Decode
import Derived.Test.Qxb6604770aFmtProg
import Derived.KernelRfl
namespace Go.Proofs
open Go.Shelf
def Tryf.laysPah43_ren : Go.Shelf.Ren := ⟨fun | 43 => 12 | 42 => 15 | 44 => 16 | n => n, fun | 9 => 9 | 30 => 23 | 35 => 25 | 3 => 3 | 38 => 37 | 4 => 4 | 0 => 0 | 5 => 5 | 47 => 42 | 46 => 31 | 45 => 44 | n => n, fun | 0 => 0 | n => n⟩
theorem Tryf.laysPah43 : Go.Proofs.Lays.ph43 Tryf.prog Tryf.laysPah43_ren := {
  mixed := by kernel_rfl
  f42 := Tryf.func15.trans (congrArg some (by kernel_rfl))
  f43 := Tryf.func12.trans (congrArg some (by kernel_rfl))
  f44 := Tryf.func16.trans (congrArg some (by kernel_rfl))
  t0 := Tryf.underlying0
  a0 := Tryf.isAgg0
  z0 := Tryf.sizeOf0
  v0 := Tryf.zeroValue0
  t3 := Tryf.underlying3
  a3 := Tryf.isAgg3
  z3 := Tryf.sizeOf3
  v3 := Tryf.zeroValue3
  t4 := Tryf.underlying4
  a4 := Tryf.isAgg4
  z4 := Tryf.sizeOf4
  v4 := Tryf.zeroValue4
  t5 := Tryf.underlying5
  a5 := Tryf.isAgg5
  z5 := Tryf.sizeOf5
  v5 := Tryf.zeroValue5
  t9 := Tryf.underlying9
  a9 := Tryf.isAgg9
  z9 := Tryf.sizeOf9
  v9 := Tryf.zeroValue9
  t30 := Tryf.underlying23
  a30 := Tryf.isAgg23
  z30 := Tryf.sizeOf23
  v30 := Tryf.zeroValue23
  t35 := Tryf.underlying25
  a35 := Tryf.isAgg25
  z35 := Tryf.sizeOf25
  v35 := Tryf.zeroValue25
  t38 := Tryf.underlying37
  a38 := Tryf.isAgg37
  z38 := Tryf.sizeOf37
  v38 := Tryf.zeroValue37
  t45 := Tryf.underlying44
  a45 := Tryf.isAgg44
  z45 := Tryf.sizeOf44
  v45 := Tryf.zeroValue44
  t46 := Tryf.underlying31
  a46 := Tryf.isAgg31
  z46 := Tryf.sizeOf31
  v46 := Tryf.zeroValue31
  t47 := Tryf.underlying42
  a47 := Tryf.isAgg42
  z47 := Tryf.sizeOf42
  v47 := Tryf.zeroValue42
  g0 := by kernel_rfl
  info5 := by kernel_rfl }
open Go.RowKit Go.Lib in
theorem Tryf.hex_DecodeString (s : ByteArray) (w : World) (ev : Value) (hE : w.cell? ⟨0, 0, none⟩ = some ev) (hbig : s.size ≤ 281474976710656) :
    Calls Tryf.prog 12 #[.string s] w fun e w' =>
      e = .returned (.tuple #[.slice (some ⟨w.heap.size, 0, none⟩) (Hx.decode s.data.toList).1.length (s.size / 2), Hx.errVal 42 ev (Hx.decode s.data.toList).2]) ∧
      w'.rowIs w.heap.size 5 (s.size / 2) (Hx.rowP (fun _ => .int .u8 0) 0 (Hx.decode s.data.toList).1) ∧ Below w.heap.size w w' := Any.hex_DecodeString Tryf.laysPah43 s w ev hE hbig
end Go.Proofs
