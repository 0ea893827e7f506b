/-
  Seat b6603153a: THE PLAIN LAW: the first rune that is no ASCII digit, against the bytes. No Go in sight.
-/
import Derived.Shelf.GgClosure.StringsIndexFuncTop
import Derived.Laws.RangeString
import Derived.Laws.RangeAny
namespace Go.Proofs.Qxb6603153a
open Go.Lib

/-- The closure's test, on a code point. -/
def bad (r : Nat) : Bool := decide (r < 48) || decide (57 < r)

/-- A byte of s, as a number. -/
def byteAt (s : ByteArray) (i : Nat) : Nat := (s.data[i]?.getD 0).toNat
theorem byteAt_eq (s : ByteArray) (k : Nat) (h : k < s.size) : (s[k]).toNat = byteAt s k := by
  have h' : k < s.data.size := h
  unfold byteAt
  rw [Array.getElem?_eq_getElem h']
  rfl

/-- Is the byte an ASCII digit? -/
def dg (s : ByteArray) (i : Nat) : Bool := decide (48 ≤ byteAt s i) && decide (byteAt s i ≤ 57)

/-- How many of the first k bytes are digits. -/
def cnt (s : ByteArray) : Nat → Nat
  | 0 => 0
  | k + 1 => cnt s k + if dg s k then 1 else 0

theorem cnt_yes (s : ByteArray) (k : Nat) (h : dg s k = true) : cnt s (k + 1) = cnt s k + 1 := by
  show cnt s k + (if dg s k then 1 else 0) = _
  rw [if_pos h]
theorem cnt_no (s : ByteArray) (k : Nat) (h : dg s k = false) : cnt s (k + 1) = cnt s k := by
  show cnt s k + (if dg s k then 1 else 0) = _
  rw [if_neg (by simp [h])]
  rfl

theorem cnt_le (s : ByteArray) : ∀ k, cnt s k ≤ k
  | 0 => Nat.le_refl _
  | k + 1 => by
    have := cnt_le s k
    unfold cnt
    split <;> omega

theorem cnt_all (s : ByteArray) : ∀ k, cnt s k = k → ∀ i, i < k → dg s i = true
  | 0, _, i, hi => absurd hi (by omega)
  | k + 1, h, i, hi => by
    have hl := cnt_le s k
    unfold cnt at h
    by_cases hd : dg s k = true
    · rw [if_pos hd] at h
      by_cases e : i = k
      · rw [e]; exact hd
      · exact cnt_all s k (by omega) i (by omega)
    · rw [if_neg hd] at h
      omega

theorem cnt_not (s : ByteArray) : ∀ k, cnt s k ≠ k → ∃ i, i < k ∧ dg s i = false
  | 0, h => absurd rfl h
  | k + 1, h => by
    unfold cnt at h
    by_cases hd : dg s k = true
    · rw [if_pos hd] at h
      obtain ⟨i, hi, e⟩ := cnt_not s k (by omega)
      exact ⟨i, by omega, e⟩
    · exact ⟨k, by omega, by simpa using hd⟩

theorem at_digit (s : ByteArray) (pos : Nat) (h : pos < s.size) (hd : dg s pos = true) : Utf8.decode s pos = (byteAt s pos, 1) ∧ bad (byteAt s pos) = false := by
  have hb := byteAt_eq s pos h
  simp only [dg, Bool.and_eq_true, decide_eq_true_eq] at hd
  rw [decode_ascii s pos h (by omega), hb]
  refine ⟨rfl, ?_⟩
  simp [bad]
  omega

theorem at_other (s : ByteArray) (pos : Nat) (h : pos < s.size) (hd : dg s pos = false) : bad (Utf8.decode s pos).1 = true := by
  have hb := byteAt_eq s pos h
  by_cases ha : (s[pos]'h).toNat < 128
  · rw [decode_ascii s pos h ha, hb]
    simp [dg] at hd
    simp [bad]
    omega
  · have := (decode_high s pos h (by omega)).1
    simp [bad]
    omega

theorem idx_digits (s : ByteArray) (hall : ∀ i, i < s.size → dg s i = true) : ∀ f pos, Lib.idxFuncFrom bad true s f pos = -1
  | 0, _ => rfl
  | f + 1, pos => by
    unfold Lib.idxFuncFrom
    by_cases h : pos < s.size
    · obtain ⟨e, hb⟩ := at_digit s pos h (hall pos h)
      rw [if_pos h, e]
      simp only [hb, Bool.false_eq_true, if_false]
      exact idx_digits s hall f _
    · rw [if_neg h]

theorem idx_other (s : ByteArray) (i : Nat) (hi : i < s.size) (hd : dg s i = false) : ∀ f pos, pos ≤ i → i < pos + f → 0 ≤ Lib.idxFuncFrom bad true s f pos
  | 0, pos, h1, h2 => absurd h2 (by omega)
  | f + 1, pos, h1, h2 => by
    unfold Lib.idxFuncFrom
    have h : pos < s.size := by omega
    rw [if_pos h]
    by_cases hp : dg s pos = true
    · obtain ⟨e, hb⟩ := at_digit s pos h hp
      rw [e]
      simp only [hb, Bool.false_eq_true, if_false]
      have hne : pos ≠ i := fun x => by rw [x, hd] at hp; cases hp
      exact idx_other s i hi hd f _ (by omega) (by omega)
    · rw [at_other s pos h (by simpa using hp), if_pos rfl]
      omega

/-- ALL BYTES ARE DIGITS: no rune is found. -/
theorem found_no (s : ByteArray) (h : cnt s s.size = s.size) : decide (0 ≤ Lib.idxFunc bad true s) = false := by
  unfold Lib.idxFunc
  rw [idx_digits s (cnt_all s _ h)]
  rfl

/-- SOME BYTE IS NONE: a rune is found. -/
theorem found_yes (s : ByteArray) (h : cnt s s.size ≠ s.size) : decide (0 ≤ Lib.idxFunc bad true s) = true := by
  obtain ⟨i, hi, e⟩ := cnt_not s _ h
  unfold Lib.idxFunc
  exact decide_eq_true (idx_other s i hi e _ 0 (by omega) (by omega))
end Go.Proofs.Qxb6603153a
