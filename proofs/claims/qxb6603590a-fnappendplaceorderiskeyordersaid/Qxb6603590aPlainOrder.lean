/-
  Seat b6603590a: THE PLAIN LAW: the byte-wise order of two encodings behind one prefix is the keys' order. No Go in sight.
-/
import Derived.Test.Qxb6603590aPlain
namespace Go.Proofs.Qxb6603590a
open Go.Lib

/-- compareBytes, plainly: lexicographic; the shorter first. -/
def cmpL : List Nat → List Nat → Int
  | [], [] => 0
  | [], _ :: _ => -1
  | _ :: _, [] => 1
  | a :: s, b :: t => if a < b then -1 else if b < a then 1 else cmpL s t

/-- compareKeys, plainly. -/
def cmpK (s1 : Nat) (c1 : List Nat) (s2 : Nat) (c2 : List Nat) : Int :=
  if s1 < s2 then -1 else if s2 < s1 then 1 else if c1.length < c2.length then -1 else if c2.length < c1.length then 1 else cmpL c1 c2

theorem cmpL_same : ∀ (p a b : List Nat), cmpL (p ++ a) (p ++ b) = cmpL a b
  | [], _, _ => rfl
  | x :: p, a, b => by
    show (if x < x then (-1 : Int) else if x < x then 1 else cmpL (p ++ a) (p ++ b)) = _
    rw [if_neg (by omega), if_neg (by omega), cmpL_same p a b]

theorem be_zero (v : Nat) : be 0 v = [] := rfl
theorem be_succ (k v : Nat) : be (k + 1) v = be k (v / 256) ++ [v % 256] := by
  simp [be, beBytes, leBytes]

theorem be_cmp : ∀ (k v1 v2 : Nat), v1 < 256 ^ k → v2 < 256 ^ k → ∀ r1 r2 : List Nat,
    cmpL (be k v1 ++ r1) (be k v2 ++ r2) = if v1 < v2 then -1 else if v2 < v1 then 1 else cmpL r1 r2
  | 0, v1, v2, h1, h2, r1, r2 => by
    simp at h1 h2
    subst h1 h2
    simp [be_zero]
  | k + 1, v1, v2, h1, h2, r1, r2 => by
    have q1 : v1 / 256 < 256 ^ k := Nat.div_lt_of_lt_mul (by rw [Nat.mul_comm, ← Nat.pow_succ]; exact h1)
    have q2 : v2 / 256 < 256 ^ k := Nat.div_lt_of_lt_mul (by rw [Nat.mul_comm, ← Nat.pow_succ]; exact h2)
    rw [be_succ, be_succ, List.append_assoc, List.append_assoc, be_cmp k _ _ q1 q2]
    show (if v1 / 256 < v2 / 256 then (-1 : Int) else if v2 / 256 < v1 / 256 then 1 else if v1 % 256 < v2 % 256 then -1 else if v2 % 256 < v1 % 256 then 1 else cmpL r1 r2) = _
    by_cases a : v1 < v2
    · rw [if_pos a]
      by_cases b : v1 / 256 < v2 / 256
      · rw [if_pos b]
      · rw [if_neg b, if_neg (by omega), if_pos (by omega)]
    · rw [if_neg a]
      by_cases c : v2 < v1
      · rw [if_pos c]
        by_cases b : v2 / 256 < v1 / 256
        · rw [if_neg (by omega), if_pos b]
        · rw [if_neg (by omega), if_neg b, if_neg (by omega), if_pos (by omega)]
      · rw [if_neg c, if_neg (by omega), if_neg (by omega), if_neg (by omega), if_neg (by omega)]

theorem encC_cmp : ∀ c1 c2 : List Nat, c1.length = c2.length → (∀ x ∈ c1, x < 65536) → (∀ x ∈ c2, x < 65536) → cmpL (encC c1) (encC c2) = cmpL c1 c2
  | [], [], _, _, _ => rfl
  | [], _ :: _, h, _, _ => absurd h (by simp)
  | _ :: _, [], h, _, _ => absurd h (by simp)
  | a :: s, b :: t, h, h1, h2 => by
    have ih := encC_cmp s t (by simpa using h) (fun x hx => h1 x (by simp [hx])) (fun x hx => h2 x (by simp [hx]))
    have ha : a < 256 ^ 2 := h1 a (by simp)
    have hb : b < 256 ^ 2 := h2 b (by simp)
    show cmpL (be 2 a ++ encC s) (be 2 b ++ encC t) = _
    rw [be_cmp 2 a b ha hb, ih]
    rfl

/-- THE LAW. -/
theorem enc_cmp (zb : List Nat) (s1 s2 : Nat) (c1 c2 : List Nat) (h1 : s1 < 18446744073709551616) (h2 : s2 < 18446744073709551616) (l1 : c1.length ≤ 65535) (l2 : c2.length ≤ 65535) (b1 : ∀ x ∈ c1, x < 65536) (b2 : ∀ x ∈ c2, x < 65536) :
    cmpL (enc zb s1 c1) (enc zb s2 c2) = cmpK s1 c1 s2 c2 := by
  unfold enc
  rw [cmpL_same, be_cmp 8 s1 s2 (by simpa using h1) (by simpa using h2), be_cmp 2 c1.length c2.length (by omega) (by omega)]
  unfold cmpK
  by_cases a : c1.length < c2.length
  · simp [a]
  · by_cases b : c2.length < c1.length
    · simp [a, b]
    · simp [a, b, encC_cmp c1 c2 (by omega) b1 b2]

/-- One step of the comparison. -/
theorem cmp_step (X Y : List Nat) (k : Nat) (hx : k < X.length) (hy : k < Y.length) :
    cmpL (X.drop k) (Y.drop k) = if X.getD k 0 < Y.getD k 0 then -1 else if Y.getD k 0 < X.getD k 0 then 1 else cmpL (X.drop (k + 1)) (Y.drop (k + 1)) := by
  rw [List.drop_eq_getElem_cons hx, List.drop_eq_getElem_cons hy, List.getD_eq_getElem?_getD, List.getD_eq_getElem?_getD, List.getElem?_eq_getElem hx, List.getElem?_eq_getElem hy]
  rfl

theorem cmp_less (X Y : List Nat) (k : Nat) (hx : X.length ≤ k) (hy : k < Y.length) : cmpL (X.drop k) (Y.drop k) = -1 := by
  rw [List.drop_eq_nil_of_le hx, List.drop_eq_getElem_cons hy]
  rfl
theorem cmp_more (X Y : List Nat) (k : Nat) (hx : k < X.length) (hy : Y.length ≤ k) : cmpL (X.drop k) (Y.drop k) = 1 := by
  rw [List.drop_eq_nil_of_le hy, List.drop_eq_getElem_cons hx]
  rfl
theorem cmp_same (X Y : List Nat) (k : Nat) (hx : X.length ≤ k) (hy : Y.length ≤ k) : cmpL (X.drop k) (Y.drop k) = 0 := by
  rw [List.drop_eq_nil_of_le hx, List.drop_eq_nil_of_le hy]
  rfl
end Go.Proofs.Qxb6603590a
