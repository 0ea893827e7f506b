/-
  Seat b6603590a: THE PLAIN LAWS: the encoding of a place as a list of numbers below 256, and what can be read off it. No Go in sight.
-/
import Derived.Lib.Endian
namespace Go.Proofs.Qxb6603590a
open Go.Lib

/-- The k bytes of v, the greatest first, as numbers. -/
def be (k v : Nat) : List Nat := (beBytes k v).map UInt8.toNat
theorem be_length (k v : Nat) : (be k v).length = k := by simp [be, beBytes_length]

theorem be2 (v : Nat) : be 2 v = [v / 256 % 256, v % 256] := by
  simp [be, beBytes, leBytes]
theorem be8 (v : Nat) : be 8 v = [v / 256 / 256 / 256 / 256 / 256 / 256 / 256 % 256, v / 256 / 256 / 256 / 256 / 256 / 256 % 256, v / 256 / 256 / 256 / 256 / 256 % 256, v / 256 / 256 / 256 / 256 % 256, v / 256 / 256 / 256 % 256, v / 256 / 256 % 256, v / 256 % 256, v % 256] := by
  simp [be, beBytes, leBytes]

/-- The coordinates' bytes. -/
def encC (zc : List Nat) : List Nat := zc.flatMap (be 2)
theorem encC_length (zc : List Nat) : (encC zc).length = 2 * zc.length := by
  unfold encC
  induction zc with
  | nil => rfl
  | cons c t ih =>
    rw [List.flatMap_cons, List.length_append, ih, be_length, List.length_cons]
    omega

theorem encC_at : ∀ (zc : List Nat) (k : Nat), k < zc.length → (encC zc).getD (2 * k) 0 = zc.getD k 0 / 256 % 256 ∧ (encC zc).getD (2 * k + 1) 0 = zc.getD k 0 % 256
  | [], k, h => absurd h (by simp)
  | c :: t, 0, _ => by simp [encC, List.flatMap_cons, be2]
  | c :: t, k + 1, h => by
    have ih := encC_at t k (by simpa using h)
    have e : encC (c :: t) = (c / 256 % 256) :: (c % 256) :: encC t := by simp [encC, List.flatMap_cons, be2]
    rw [e, show 2 * (k + 1) = 2 * k + 1 + 1 by omega, show 2 * k + 1 + 1 + 1 = (2 * k + 1) + 1 + 1 by omega]
    simpa using ih

/-- A PLACE's ENCODING behind the prefix zb. -/
def enc (zb : List Nat) (s : Nat) (zc : List Nat) : List Nat := zb ++ (be 8 s ++ (be 2 zc.length ++ encC zc))

theorem enc_length (zb : List Nat) (s : Nat) (zc : List Nat) : (enc zb s zc).length = zb.length + 10 + 2 * zc.length := by
  simp only [enc, List.length_append, be_length, encC_length]
  omega

theorem enc_pre (zb : List Nat) (s : Nat) (zc : List Nat) (i : Nat) (h : i < zb.length) : (enc zb s zc).getD i 0 = zb.getD i 0 := by
  simp only [enc, List.getD_eq_getElem?_getD]
  rw [List.getElem?_append_left h]

theorem enc_behind (zb : List Nat) (s : Nat) (zc : List Nat) (i : Nat) : (enc zb s zc).getD (zb.length + i) 0 = (be 8 s ++ (be 2 zc.length ++ encC zc)).getD i 0 := by
  simp only [enc, List.getD_eq_getElem?_getD]
  rw [List.getElem?_append_right (by omega), Nat.add_sub_cancel_left]

theorem enc_count (zb : List Nat) (s : Nat) (zc : List Nat) : (enc zb s zc).getD (zb.length + 8) 0 = zc.length / 256 % 256 ∧ (enc zb s zc).getD (zb.length + 9) 0 = zc.length % 256 := by
  rw [enc_behind, enc_behind, be8, be2]
  exact ⟨rfl, rfl⟩

theorem enc_coord (zb : List Nat) (s : Nat) (zc : List Nat) (k : Nat) (h : k < zc.length) :
    (enc zb s zc).getD (zb.length + 10 + 2 * k) 0 = zc.getD k 0 / 256 % 256 ∧ (enc zb s zc).getD (zb.length + 11 + 2 * k) 0 = zc.getD k 0 % 256 := by
  have hc := encC_at zc k h
  rw [show zb.length + 10 + 2 * k = zb.length + (8 + (2 + 2 * k)) by omega, show zb.length + 11 + 2 * k = zb.length + (8 + (2 + (2 * k + 1))) by omega, enc_behind, enc_behind]
  have e : ∀ j, (be 8 s ++ (be 2 zc.length ++ encC zc)).getD (8 + (2 + j)) 0 = (encC zc).getD j 0 := fun j => by
    simp only [List.getD_eq_getElem?_getD]
    rw [List.getElem?_append_right (by rw [be_length]; omega), be_length, List.getElem?_append_right (by rw [be_length]; omega), be_length]
    congr 2
    omega
  rw [e, e]
  exact hc

/-- What the loop over the eight bytes has gathered behind k rounds. -/
def acc (s k : Nat) : Nat := s / 256 ^ (8 - k)
theorem acc_zero (s : Nat) (h : s < 18446744073709551616) : acc s 0 = 0 := by
  unfold acc
  exact Nat.div_eq_of_lt (by simpa using h)
theorem acc_all (s : Nat) : acc s 8 = s := by simp [acc]

theorem acc_step (zb : List Nat) (s : Nat) (zc : List Nat) (k : Nat) (h : k < 8) : acc s k * 256 + (enc zb s zc).getD (zb.length + k) 0 = acc s (k + 1) := by
  rw [enc_behind, be8]
  have h7 : k = 0 ∨ k = 1 ∨ k = 2 ∨ k = 3 ∨ k = 4 ∨ k = 5 ∨ k = 6 ∨ k = 7 := by omega
  have e : ∀ j, s / 256 ^ (j + 1) = s / 256 ^ j / 256 := fun j => by rw [Nat.pow_succ, Nat.div_div_eq_div_mul]
  have e0 : s / 256 ^ 0 = s := by simp
  have e1 := e 0; have e2 := e 1; have e3 := e 2; have e4 := e 3; have e5 := e 4; have e6 := e 5; have e7 := e 6; have e8 := e 7
  rw [e0] at e1
  rw [e1] at e2
  rw [e2] at e3
  rw [e3] at e4
  rw [e4] at e5
  rw [e5] at e6
  rw [e6] at e7
  rw [e7] at e8
  obtain rfl | rfl | rfl | rfl | rfl | rfl | rfl | rfl := h7
  · show s / 256 ^ (7 + 1) * 256 + s / 256 / 256 / 256 / 256 / 256 / 256 / 256 % 256 = s / 256 ^ (6 + 1)
    rw [e8, e7]; omega
  · show s / 256 ^ (6 + 1) * 256 + s / 256 / 256 / 256 / 256 / 256 / 256 % 256 = s / 256 ^ (5 + 1)
    rw [e7, e6]; omega
  · show s / 256 ^ (5 + 1) * 256 + s / 256 / 256 / 256 / 256 / 256 % 256 = s / 256 ^ (4 + 1)
    rw [e6, e5]; omega
  · show s / 256 ^ (4 + 1) * 256 + s / 256 / 256 / 256 / 256 % 256 = s / 256 ^ (3 + 1)
    rw [e5, e4]; omega
  · show s / 256 ^ (3 + 1) * 256 + s / 256 / 256 / 256 % 256 = s / 256 ^ (2 + 1)
    rw [e4, e3]; omega
  · show s / 256 ^ (2 + 1) * 256 + s / 256 / 256 % 256 = s / 256 ^ (1 + 1)
    rw [e3, e2]; omega
  · show s / 256 ^ (1 + 1) * 256 + s / 256 % 256 = s / 256 ^ (0 + 1)
    rw [e2, e1]; omega
  · show s / 256 ^ (0 + 1) * 256 + s % 256 = s / 256 ^ 0
    rw [e1, e0]; omega

theorem acc_le (s k : Nat) : acc s k ≤ s := Nat.div_le_self _ _

theorem be_lt (k v : Nat) : ∀ x ∈ be k v, x < 256 := fun x hx => by
  simp only [be, List.mem_map] at hx
  obtain ⟨b, _, rfl⟩ := hx
  exact b.toNat_lt

theorem enc_lt (zb : List Nat) (s : Nat) (zc : List Nat) (hb : ∀ x ∈ zb, x < 256) (i : Nat) : (enc zb s zc).getD i 0 < 256 := by
  have hm : ∀ x ∈ enc zb s zc, x < 256 := fun x hx => by
    simp only [enc, encC, List.mem_append, List.mem_flatMap] at hx
    rcases hx with h | h | h | ⟨c, _, h⟩
    · exact hb x h
    · exact be_lt _ _ x h
    · exact be_lt _ _ x h
    · exact be_lt _ _ x h
  by_cases h : i < (enc zb s zc).length
  · rw [List.getD_eq_getElem?_getD, List.getElem?_eq_getElem h]
    exact hm _ (List.getElem_mem h)
  · rw [List.getD_eq_getElem?_getD, List.getElem?_eq_none (by omega)]
    exact Nat.zero_lt_of_lt (show 0 < 256 by omega)
end Go.Proofs.Qxb6603590a
