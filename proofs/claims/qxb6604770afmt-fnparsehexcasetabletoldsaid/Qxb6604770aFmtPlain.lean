/-
  Seat b6604770aF: THE PLAIN LAW: what the decoding of a text of lower-case hexadecimal digits gives. No Go in sight.
-/
import Derived.Lib.HexFns2
namespace Go.Proofs.Qxb6604770aFmt
open Go.Lib

/-- zzHexVal, plainly. -/
def hv (c : Int) : Int := if 48 ≤ c ∧ c ≤ 57 then c - 48 else if 97 ≤ c ∧ c ≤ 102 then c - 87 else -1

theorem hv_digit (c : Int) (h1 : 48 ≤ c) (h2 : c ≤ 57) : hv c = c - 48 := by simp [hv, h1, h2]
theorem hv_letter (c : Int) (h1 : 97 ≤ c) (h2 : c ≤ 102) : hv c = c - 87 := by
  have : ¬ (48 ≤ c ∧ c ≤ 57) := by omega
  simp [hv, h1, h2, this]
theorem hv_other (c : Int) (h1 : ¬ (48 ≤ c ∧ c ≤ 57)) (h2 : ¬ (97 ≤ c ∧ c ≤ 102)) : hv c = -1 := by simp [hv, h1, h2]
theorem hv_good (c : Int) (h : 0 ≤ hv c) : (48 ≤ c ∧ c ≤ 57) ∨ (97 ≤ c ∧ c ≤ 102) := by
  by_cases h1 : 48 ≤ c ∧ c ≤ 57
  · exact .inl h1
  · by_cases h2 : 97 ≤ c ∧ c ≤ 102
    · exact .inr h2
    · rw [hv_other c h1 h2] at h; omega
theorem hv_le (c : Int) : -1 ≤ hv c ∧ hv c ≤ 15 := by
  unfold hv
  split
  · omega
  · split <;> omega

/-- A byte of s, as a number. -/
def byteAt (s : ByteArray) (i : Nat) : Int := ((s.data[i]?.getD 0).toNat : Int)
theorem byteAt_lo (s : ByteArray) (i : Nat) : 0 ≤ byteAt s i := by unfold byteAt; omega
theorem byteAt_hi (s : ByteArray) (i : Nat) : byteAt s i ≤ 255 := by
  unfold byteAt
  have := (s.data[i]?.getD 0).toNat_lt
  omega

set_option maxRecDepth 100000 in
theorem v_fin : ∀ n : Fin 256, 0 ≤ hv ((n.val : Nat) : Int) → ((Hx.v (UInt8.ofNat n.val) : Nat) : Int) = hv ((n.val : Nat) : Int) := by decide +kernel

theorem v_hv (c : UInt8) (h : 0 ≤ hv (c.toNat : Int)) : ((Hx.v c : Nat) : Int) = hv (c.toNat : Int) := by
  have e := v_fin ⟨c.toNat, c.toNat_lt⟩ h
  simpa using e

/-- A text all of whose bytes are lower-case hexadecimal digits. -/
def Clean (l : List UInt8) : Prop := ∀ i, i < l.length → 0 ≤ hv ((l[i]?.getD 0).toNat : Int)

theorem clean_tail {p q : UInt8} {t : List UInt8} (h : Clean (p :: q :: t)) : Clean t := fun i hi => by
  have := h (i + 2) (by simp; omega)
  simpa using this

theorem decode_clean : ∀ l : List UInt8, Clean l → (Hx.decode l).1.length = l.length / 2 ∧
    (∀ i, i < l.length / 2 → ((((Hx.decode l).1)[i]?.getD 0).toNat : Int) = hv ((l[2 * i]?.getD 0).toNat : Int) * 16 + hv ((l[2 * i + 1]?.getD 0).toNat : Int)) ∧
    ((l.length % 2 = 1 → (Hx.decode l).2 = .odd) ∧ (l.length % 2 = 0 → (Hx.decode l).2 = .ok))
  | [], _ => by
    rw [Hx.decode_nil]
    exact ⟨rfl, fun i hi => absurd hi (by simp), fun h => absurd h (by simp), fun _ => rfl⟩
  | [c], h => by
    have h0 : 0 ≤ hv (c.toNat : Int) := by simpa using h 0 (by simp)
    have hv' := v_hv c h0
    have hl := hv_le (c.toNat : Int)
    rw [Hx.decode_one, if_neg (by omega)]
    exact ⟨by simp, fun i hi => absurd hi (by simp), fun _ => rfl, fun h => absurd h (by simp)⟩
  | p :: q :: t, h => by
    have hp : 0 ≤ hv (p.toNat : Int) := by simpa using h 0 (by simp)
    have hq : 0 ≤ hv (q.toNat : Int) := by simpa using h 1 (by simp)
    have ep := v_hv p hp
    have eq := v_hv q hq
    have lp := hv_le (p.toNat : Int)
    have lq := hv_le (q.toNat : Int)
    obtain ⟨a, b, c, d⟩ := decode_clean t (clean_tail h)
    rw [Hx.decode_two, if_neg (by omega), if_neg (by omega)]
    refine ⟨by simp [a]; omega, fun i hi => ?_, fun hm => c (by simp at hm; omega), fun hm => d (by simp at hm; omega)⟩
    cases i with
    | zero =>
      simp only [List.getElem?_cons_zero, Option.getD_some, Nat.mul_zero, List.getElem?_cons_succ]
      rw [UInt8.toNat_ofNat', Nat.mod_eq_of_lt (by omega)]
      omega
    | succ j =>
      have := b j (by simp at hi; omega)
      rw [show 2 * (j + 1) = 2 * j + 1 + 1 by omega, show 2 * j + 1 + 1 + 1 = (2 * j + 1) + 1 + 1 by omega]
      simp only [List.getElem?_cons_succ]
      exact this

theorem clean_of (s : ByteArray) (h : ∀ j, j < s.size → 0 ≤ hv (byteAt s j)) : Clean s.data.toList := fun i hi => by
  have := h i (by rw [Lib.size_eq]; exact hi)
  simpa [byteAt] using this
end Go.Proofs.Qxb6604770aFmt
