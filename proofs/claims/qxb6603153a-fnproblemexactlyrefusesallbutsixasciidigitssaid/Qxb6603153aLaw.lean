/-
  Seat b6603153a: the walks: the bound (5), the byte counter (6), the closure (10), Problem (7), the law (3).
-/
import Derived.Test.Qxb6603153aRows
import Derived.Test.Qxb6603153aShelf
import Derived.Test.Qxb6603153aPlain
import Derived.WalkKit
import Derived.WalkSpells
namespace Go.Proofs.Qxb6603153a
open Go.RowKit

/-- "a code is six digits". -/
abbrev msg : ByteArray := ⟨#[97, 32, 99, 111, 100, 101, 32, 105, 115, 32, 115, 105, 120, 32, 100, 105, 103, 105, 116, 115]⟩

theorem bound_ok (s : ByteArray) (w : World) (h : s.size ≤ 1048576) :
    Calls Try.prog 5 #[.string s] w fun e w' => e = .returned (.bool true) ∧ w' = w := by
  have h' : (s.size : Int) ≤ 1048576 := by omega
  go_enter Try.func5, Try.ntmps5
  go_wp2
  go_ret
  exact ⟨rfl, rfl⟩

theorem bound_big (s : ByteArray) (w : World) (h : 1048576 < s.size) (hm : s.size ≤ maxLen) :
    Calls Try.prog 5 #[.string s] w fun e w' => e = .returned (.bool false) ∧ w' = w := by
  unfold maxLen at hm
  have h' : (1048576 : Int) < (s.size : Int) := by omega
  go_enter Try.func5, Try.ntmps5
  go_wp2
  go_ret
  exact ⟨rfl, rfl⟩

theorem six_no (s : ByteArray) (w : World) (h : ((s.size : Int) == 6) = false) :
    Calls Try.prog 6 #[.string s] w fun e w' => e = .returned (.bool false) ∧ w' = w := by
  go_enter Try.func6, Try.ntmps6
  go_wp2
  go_ret
  exact ⟨rfl, rfl⟩

theorem ret_bool {a b : Bool} (h : a = b) : Ending.returned (.bool a) = .returned (.bool b) := by rw [h]

set_option maxHeartbeats 400000 in
theorem six_yes (s : ByteArray) (w : World) (h : s.size = 6) :
    Calls Try.prog 6 #[.string s] w fun e w' => e = .returned (.bool (decide (cnt s s.size = s.size))) ∧ w' = w := by
  have hS : Hid (s.size = 6) := h
  have h1 : ((s.size : Int) == 6) = true := by rw [h]; rfl
  have h2 : s.size ≤ 6 := by omega
  have h3 : 6 ≤ s.size := by omega
  clear h
  go_enter Try.func6, Try.ntmps6
  go_wp2
  go_loop [3, 4] (fun n i => ∃ k : Nat, k ≤ s.size ∧ i = .int .i64 k ∧ n = .int .i64 (cnt s k)) (fun _ i => s.size - (intOf i).toNat)
  case atStart => exact ⟨0, Nat.zero_le _, rfl, rfl⟩
  case round =>
    obtain ⟨k, hk, rfl, rfl⟩ := hrel
    have hc := cnt_le s k
    by_cases hlt : k < s.size
    · have hb := byteAt_eq s k hlt
      have HN : Hid (dg s k = true → cnt s (k + 1) = cnt s k + 1) := cnt_yes s k
      have HM : Hid (dg s k = false → cnt s (k + 1) = cnt s k) := cnt_no s k
      by_cases d1 : (48 : Int) ≤ (byteAt s k : Int)
      · by_cases d2 : (byteAt s k : Int) ≤ 57
        · have HC : Hid (cnt s (k + 1) = cnt s k + 1) := HN.out (by simp [dg]; omega)
          clear HN HM
          go_wp2
          go_round
          case rel => exact ⟨k + 1, by omega, by go_num, by rw [HC.out]; go_num⟩
          case measure => simp [intOf]; omega
        · have HC : Hid (cnt s (k + 1) = cnt s k) := HM.out (by simp [dg]; omega)
          clear HN HM
          go_wp2
          go_round
          case rel => exact ⟨k + 1, by omega, by go_num, by rw [HC.out]⟩
          case measure => simp [intOf]; omega
      · have HC : Hid (cnt s (k + 1) = cnt s k) := HM.out (by simp [dg]; omega)
        clear HN HM
        go_wp2
        go_round
        case rel => exact ⟨k + 1, by omega, by go_num, by rw [HC.out]⟩
        case measure => simp [intOf]; omega
    · have hk' : k = s.size := by omega
      subst hk'
      go_wp2
      go_ret
      exact ⟨ret_bool (by rw [Bool.eq_iff_iff]; simp; omega), rfl⟩

/-- The closure's walk. -/
theorem closure (w : World) : PredAt Try.prog 10 #[] encR bad w := fun W r _ => by
  unfold FnGives
  by_cases h1 : (r : Int) < 48
  · go_enter Try.func10, Try.ntmps10
    go_wp2
    go_ret
    exact ⟨ret_bool (by simp [bad]; omega), 0, rfl⟩
  · by_cases h2 : (57 : Int) < (r : Int)
    · go_enter Try.func10, Try.ntmps10
      go_wp2
      go_ret
      exact ⟨ret_bool (by simp [bad]; omega), 0, rfl⟩
    · go_enter Try.func10, Try.ntmps10
      go_wp2
      go_ret
      exact ⟨ret_bool (by simp [bad]; omega), 0, rfl⟩

theorem contains (s : ByteArray) (w : World) : Calls Try.prog 9 #[.string s, .func (.func 10) #[] #[]] w fun e w' => e = .returned (.bool (decide (0 ≤ Lib.idxFunc bad true s))) ∧ Below w.heap.size w w' :=
  Try.strings_ContainsFunc 10 #[] (enters_of Try.func10 (by kernel_rfl) rfl) bad s w (closure w)

theorem problem_no (s : ByteArray) (w : World) (h : ¬ (s.size : Int) = 6) :
    Calls Try.prog 7 #[.string s] w fun e w' => e = .returned (.string msg) ∧ w' = w := by
  go_enter Try.func7, Try.ntmps7
  go_wp2
  go_ret
  exact ⟨rfl, rfl⟩

theorem problem_bad (s : ByteArray) (w : World) (h : (s.size : Int) = 6) (hf : decide (0 ≤ Lib.idxFunc bad true s) = true) :
    Calls Try.prog 7 #[.string s] w fun e w' => e = .returned (.string msg) ∧ Below w.heap.size w w' := by
  have hC := fun w => contains s w
  rw [hf] at hC
  have HC : Hid (∀ w, _) := hC
  clear hC hf
  go_enter Try.func7, Try.ntmps7
  go_wp2_with fail
  refine (HC.out _).mono ?_
  rintro e w' ⟨rfl, hb⟩
  have HB : Hid (Below w.heap.size w w') := hb
  clear hb
  go_wp2
  go_ret
  exact ⟨rfl, HB.out⟩

theorem problem_good (s : ByteArray) (w : World) (h : (s.size : Int) = 6) (hf : decide (0 ≤ Lib.idxFunc bad true s) = false) :
    Calls Try.prog 7 #[.string s] w fun e w' => e = .returned (.string ⟨#[]⟩) ∧ Below w.heap.size w w' := by
  have hC := fun w => contains s w
  rw [hf] at hC
  have HC : Hid (∀ w, _) := hC
  clear hC hf
  go_enter Try.func7, Try.ntmps7
  go_wp2_with fail
  refine (HC.out _).mono ?_
  rintro e w' ⟨rfl, hb⟩
  have HB : Hid (Below w.heap.size w w') := hb
  clear hb
  go_wp2
  go_ret
  exact ⟨rfl, HB.out⟩

theorem walk_big (s : ByteArray) (w : World) (h : 1048576 < s.size) (hm : s.size ≤ maxLen) :
    Calls Try.prog 3 #[.string s] w fun e w' => e = .returned (.bool true) ∧ Below w.heap.size w w' := by
  go_enter Try.func3, Try.ntmps3
  go_wp2_with fail
  refine (bound_big s _ h hm).mono ?_
  rintro e w' ⟨rfl, rfl⟩
  go_wp2
  go_ret
  exact ⟨rfl, Below.refl _ _⟩

theorem walk_ok (s : ByteArray) (w : World) (h : s.size ≤ 1048576) :
    Calls Try.prog 3 #[.string s] w fun e w' => e = .returned (.bool true) ∧ Below w.heap.size w w' := by
  have h' : (s.size : Int) ≤ 1048576 := by omega
  by_cases h6 : s.size = 6
  · have g : (s.size : Int) = 6 := by omega
    have hS := six_yes s
    by_cases hc : cnt s s.size = s.size
    · have hP := fun w => problem_good s w g (found_no s hc)
      have hS' : ∀ w, Calls Try.prog 6 #[.string s] w fun e w' => e = .returned (.bool true) ∧ w' = w := fun w => by
        have := hS w h6
        rwa [decide_eq_true hc] at this
      clear hS hc h6 g
      go_enter Try.func3, Try.ntmps3
      go_wp2_with fail
      refine (bound_ok s _ h).mono ?_
      rintro e w' ⟨rfl, rfl⟩
      go_wp2_with fail
      refine (hS' _).mono ?_
      rintro e w' ⟨rfl, rfl⟩
      go_wp2_with fail
      refine (hP _).mono ?_
      rintro e w1 ⟨rfl, hb⟩
      have HB : Hid (Below w'.heap.size w' w1) := hb
      clear hb hP hS'
      go_wp2
      go_ret
      exact ⟨rfl, HB.out⟩
    · have hP := fun w => problem_bad s w g (found_yes s hc)
      have hS' : ∀ w, Calls Try.prog 6 #[.string s] w fun e w' => e = .returned (.bool false) ∧ w' = w := fun w => by
        have := hS w h6
        rwa [decide_eq_false hc] at this
      clear hS hc h6 g
      go_enter Try.func3, Try.ntmps3
      go_wp2_with fail
      refine (bound_ok s _ h).mono ?_
      rintro e w' ⟨rfl, rfl⟩
      go_wp2_with fail
      refine (hS' _).mono ?_
      rintro e w' ⟨rfl, rfl⟩
      go_wp2_with fail
      refine (hP _).mono ?_
      rintro e w1 ⟨rfl, hb⟩
      have HB : Hid (Below w'.heap.size w' w1) := hb
      clear hb hP hS'
      go_wp2
      go_ret
      exact ⟨rfl, HB.out⟩
  · have g : ((s.size : Int) == 6) = false := by rw [beq_eq_false_iff_ne]; omega
    have hP := fun w => problem_no s w (by omega)
    have hS := fun w => six_no s w g
    clear h6 g
    go_enter Try.func3, Try.ntmps3
    go_wp2_with fail
    refine (bound_ok s _ h).mono ?_
    rintro e w' ⟨rfl, rfl⟩
    go_wp2_with fail
    refine (hS _).mono ?_
    rintro e w' ⟨rfl, rfl⟩
    go_wp2_with fail
    refine (hP _).mono ?_
    rintro e w1 ⟨rfl, rfl⟩
    clear hP hS
    go_wp2
    go_ret
    exact ⟨rfl, Below.refl _ _⟩
end Go.Proofs.Qxb6603153a
