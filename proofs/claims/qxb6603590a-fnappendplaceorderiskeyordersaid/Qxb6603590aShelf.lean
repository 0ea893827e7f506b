/-
  Seat b6603590a: the appenders' contracts of the guide's shelf ((binary.bigEndian).AppendUint16, AppendUint64), laid at this program in plain words (the tool lay-plain wrote the layings).
-/
import Derived.Shelf.Bin.BEAppendUint16
import Derived.Shelf.Bin.BEAppendUint64
import Derived.Shelf.Bin.BEAppendUint16Arg
import Derived.Shelf.Bin.BEAppendUint64Arg
import Derived.Test.Qxb6603590aProg
import Derived.KernelRfl
namespace Go.Proofs
open Go.Shelf
def Try.laysBin38_ren : Go.Shelf.Ren := ⟨fun | 38 => 14 | n => n, fun | 37 => 36 | 22 => 22 | 23 => 31 | 0 => 0 | 45 => 39 | 5 => 5 | n => n, fun | n => n⟩
theorem Try.laysBin38 : Go.Proofs.LaysBin.n38 Try.prog Try.laysBin38_ren := {
  mixed := by kernel_rfl
  f38 := Try.func14.trans (congrArg some (by kernel_rfl))
  t0 := Try.underlying0
  a0 := Try.isAgg0
  z0 := Try.sizeOf0
  v0 := Try.zeroValue0
  i0 := by kernel_rfl
  t5 := Try.underlying5
  a5 := Try.isAgg5
  z5 := Try.sizeOf5
  v5 := Try.zeroValue5
  i5 := by kernel_rfl
  t22 := Try.underlying22
  a22 := Try.isAgg22
  z22 := Try.sizeOf22
  v22 := Try.zeroValue22
  i22 := by kernel_rfl
  t23 := Try.underlying31
  a23 := Try.isAgg31
  z23 := Try.sizeOf31
  v23 := Try.zeroValue31
  i23 := by kernel_rfl
  t37 := Try.underlying36
  a37 := Try.isAgg36
  z37 := Try.sizeOf36
  v37 := Try.zeroValue36
  i37 := by kernel_rfl
  t45 := Try.underlying39
  a45 := Try.isAgg39
  z45 := Try.sizeOf39
  v45 := Try.zeroValue39
  i45 := by kernel_rfl }
open Go.RowKit in
theorem Try.binary_BE_AppendUint16 (B n v : Nat) (hv : v < 65536) (sv : Value) (xs : List Value) (w : World) (hown : w.ownsRow B 5 1 sv n xs) (hBw : B ≤ w.heap.size) (hlim : n + 2 ≤ 140737488355328) :
    Calls Try.prog 14 #[.agg #[], sv, .int .u16 v] w fun e w' => ∃ v', e = .returned v' ∧ w'.ownsRow B 5 1 v' (n + 2) (xs ++ Lib.byteCells (Lib.beBytes 2 v)) ∧ Below B w w' := Any.binary_BE_AppendUint16 Try.laysBin38 B n v hv sv xs w hown hBw hlim
def Try.laysBin44_ren : Go.Shelf.Ren := ⟨fun | 44 => 12 | n => n, fun | 37 => 36 | 22 => 22 | 33 => 23 | 0 => 0 | 45 => 39 | 5 => 5 | n => n, fun | n => n⟩
theorem Try.laysBin44 : Go.Proofs.LaysBin.n44 Try.prog Try.laysBin44_ren := {
  mixed := by kernel_rfl
  f44 := Try.func12.trans (congrArg some (by kernel_rfl))
  t0 := Try.underlying0
  a0 := Try.isAgg0
  z0 := Try.sizeOf0
  v0 := Try.zeroValue0
  i0 := by kernel_rfl
  t5 := Try.underlying5
  a5 := Try.isAgg5
  z5 := Try.sizeOf5
  v5 := Try.zeroValue5
  i5 := by kernel_rfl
  t22 := Try.underlying22
  a22 := Try.isAgg22
  z22 := Try.sizeOf22
  v22 := Try.zeroValue22
  i22 := by kernel_rfl
  t33 := Try.underlying23
  a33 := Try.isAgg23
  z33 := Try.sizeOf23
  v33 := Try.zeroValue23
  i33 := by kernel_rfl
  t37 := Try.underlying36
  a37 := Try.isAgg36
  z37 := Try.sizeOf36
  v37 := Try.zeroValue36
  i37 := by kernel_rfl
  t45 := Try.underlying39
  a45 := Try.isAgg39
  z45 := Try.sizeOf39
  v45 := Try.zeroValue39
  i45 := by kernel_rfl }
open Go.RowKit in
theorem Try.binary_BE_AppendUint64 (B n v : Nat) (hv : v < 18446744073709551616) (sv : Value) (xs : List Value) (w : World) (hown : w.ownsRow B 5 1 sv n xs) (hBw : B ≤ w.heap.size) (hlim : n + 8 ≤ 140737488355328) :
    Calls Try.prog 12 #[.agg #[], sv, .int .u64 v] w fun e w' => ∃ v', e = .returned v' ∧ w'.ownsRow B 5 1 v' (n + 8) (xs ++ Lib.byteCells (Lib.beBytes 8 v)) ∧ Below B w w' := Any.binary_BE_AppendUint64 Try.laysBin44 B n v hv sv xs w hown hBw hlim
open Go.RowKit in
theorem Try.binary_BE_AppendUint16_arg (g o n cap v : Nat) (hv : v < 65536) (olds : List Value) (w : World) (hlo : olds.length = n) (holds : ∀ j u, olds[j]? = some u → w.cell? ⟨g, o + j, none⟩ = some u) (hspare : n + 2 ≤ cap → ∀ j, j < 2 → (w.cell? ⟨g, o + n + j, none⟩).isSome = true ∧ w.frozen? ⟨g, o + n + j, none⟩ = false) (hlim : n + 2 ≤ 140737488355328) :
    Calls Try.prog 14 #[.agg #[], .slice (some ⟨g, o, none⟩) n cap, .int .u16 v] w fun e w' =>
      (n + 2 ≤ cap ∧ e = .returned (.slice (some ⟨g, o, none⟩) (n + 2) cap) ∧ w' = ((w.alloc (.cells #[] 36)).alloc (.cells (Lib.byteCells (Lib.beBytes 2 v)).toArray 5)).setCells g (o + n) (Lib.byteCells (Lib.beBytes 2 v))) ∨
      (cap < n + 2 ∧ ∃ v', e = .returned v' ∧ w'.ownsRow (w.heap.size + 2) 5 1 v' (n + 2) (olds ++ Lib.byteCells (Lib.beBytes 2 v)) ∧ Below w.heap.size w w') := Any.binary_BE_AppendUint16_arg Try.laysBin38 g o n cap v hv olds w hlo holds hspare hlim
open Go.RowKit in
theorem Try.binary_BE_AppendUint64_arg (g o n cap v : Nat) (hv : v < 18446744073709551616) (olds : List Value) (w : World) (hlo : olds.length = n) (holds : ∀ j u, olds[j]? = some u → w.cell? ⟨g, o + j, none⟩ = some u) (hspare : n + 8 ≤ cap → ∀ j, j < 8 → (w.cell? ⟨g, o + n + j, none⟩).isSome = true ∧ w.frozen? ⟨g, o + n + j, none⟩ = false) (hlim : n + 8 ≤ 140737488355328) :
    Calls Try.prog 12 #[.agg #[], .slice (some ⟨g, o, none⟩) n cap, .int .u64 v] w fun e w' =>
      (n + 8 ≤ cap ∧ e = .returned (.slice (some ⟨g, o, none⟩) (n + 8) cap) ∧ w' = ((w.alloc (.cells #[] 36)).alloc (.cells (Lib.byteCells (Lib.beBytes 8 v)).toArray 5)).setCells g (o + n) (Lib.byteCells (Lib.beBytes 8 v))) ∨
      (cap < n + 8 ∧ ∃ v', e = .returned v' ∧ w'.ownsRow (w.heap.size + 2) 5 1 v' (n + 8) (olds ++ Lib.byteCells (Lib.beBytes 8 v)) ∧ Below w.heap.size w w') := Any.binary_BE_AppendUint64_arg Try.laysBin44 g o n cap v hv olds w hlo holds hspare hlim
end Go.Proofs
