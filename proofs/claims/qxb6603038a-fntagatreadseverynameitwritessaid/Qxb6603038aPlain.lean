/-
  Seat b6603038a: the tags' names, plainly.
-/
import Derived.Lib.Strings
namespace Go.Proofs.Qxb6603038a
open Go.Lib

/-- The names, in the table's order. -/
def nmL : Nat → List UInt8
  | 0 => [33, 33, 115, 116, 114]
  | 1 => [33, 33, 110, 117, 108, 108]
  | 2 => [33, 33, 98, 111, 111, 108]
  | 3 => [33, 33, 105, 110, 116]
  | 4 => [33, 33, 102, 108, 111, 97, 116]
  | 5 => [33, 33, 109, 97, 112]
  | _ => [33, 33, 115, 101, 113]

/-- The tags' numbers. -/
def tg : Nat → Int
  | 0 => 1
  | 1 => 2
  | 2 => 3
  | 3 => 4
  | 4 => 5
  | 5 => 1
  | _ => 1

theorem seven (i : Nat) (h : i < 7) : i = 0 ∨ i = 1 ∨ i = 2 ∨ i = 3 ∨ i = 4 ∨ i = 5 ∨ i = 6 := by omega

/-- No name begins another. -/
theorem pf (i j : Nat) (hi : i < 7) (hj : j < 7) (tl : List UInt8) : Lib.hasPrefix (nmL i ++ tl) (nmL j) = decide (i = j) := by
  obtain rfl | rfl | rfl | rfl | rfl | rfl | rfl := seven i hi <;> obtain rfl | rfl | rfl | rfl | rfl | rfl | rfl := seven j hj <;> simp [Lib.hasPrefix, nmL, List.isPrefixOf]

theorem nmL_len (i : Nat) : (nmL i).length ≤ 7 ∧ 5 ≤ (nmL i).length := by
  unfold nmL
  split <;> simp

/-- May what follows the name follow it? -/
def okB : List UInt8 → Bool
  | [] => true
  | c :: _ => c == 32

/-- The seven tests, as the walk meets them. -/
theorem pfs (i : Nat) (hi : i < 7) (tl r : List UInt8) (h : r = nmL i ++ tl) :
    Lib.hasPrefix r (⟨#[33, 33, 115, 116, 114]⟩ : ByteArray).data.toList = decide (i = 0) ∧
    Lib.hasPrefix r (⟨#[33, 33, 110, 117, 108, 108]⟩ : ByteArray).data.toList = decide (i = 1) ∧
    Lib.hasPrefix r (⟨#[33, 33, 98, 111, 111, 108]⟩ : ByteArray).data.toList = decide (i = 2) ∧
    Lib.hasPrefix r (⟨#[33, 33, 105, 110, 116]⟩ : ByteArray).data.toList = decide (i = 3) ∧
    Lib.hasPrefix r (⟨#[33, 33, 102, 108, 111, 97, 116]⟩ : ByteArray).data.toList = decide (i = 4) ∧
    Lib.hasPrefix r (⟨#[33, 33, 109, 97, 112]⟩ : ByteArray).data.toList = decide (i = 5) ∧
    Lib.hasPrefix r (⟨#[33, 33, 115, 101, 113]⟩ : ByteArray).data.toList = decide (i = 6) := by
  subst h
  exact ⟨pf i 0 hi (by omega) tl, pf i 1 hi (by omega) tl, pf i 2 hi (by omega) tl, pf i 3 hi (by omega) tl, pf i 4 hi (by omega) tl, pf i 5 hi (by omega) tl, pf i 6 hi (by omega) tl⟩

theorem bytes_data (l : List UInt8) : (⟨l.toArray⟩ : ByteArray).data.toList = l := by simp
theorem bytes_size (l : List UInt8) : (⟨l.toArray⟩ : ByteArray).size = l.length := by simp [ByteArray.size]

/-- What is left of a line from a on. -/
theorem rest_data (line : ByteArray) (a : Nat) : (line.extract a line.size).data.toList = line.data.toList.drop a := by
  rw [Lib.extract_data]
  have : line.data.toList.length = line.size := (Lib.size_eq line).symm
  rw [List.take_of_length_le (by rw [List.length_drop]; omega)]
end Go.Proofs.Qxb6603038a
