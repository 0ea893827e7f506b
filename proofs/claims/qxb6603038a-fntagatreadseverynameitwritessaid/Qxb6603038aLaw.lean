/-
  Seat b6603038a: the law's walk (3), with the bound (4) and the table (5).
-/
import Derived.Test.Qxb6603038aTag
import Derived.WalkSmall
namespace Go.Proofs.Qxb6603038a
open Go.RowKit

/-- The k-th name as Go's string. -/
def nm (k : Nat) : ByteArray := ⟨(nmL k).toArray⟩
theorem nm_data (k : Nat) : (nm k).data.toList = nmL k := by simp [nm]
theorem nm_size (k : Nat) : (nm k).size = (nmL k).length := by rw [Lib.size_eq, nm_data]

theorem append_data (a b : ByteArray) : (a ++ b).data.toList = a.data.toList ++ b.data.toList := by simp [ByteArray.data_append]
theorem append_size (a b : ByteArray) : (a ++ b).size = a.size + b.size := by simp [ByteArray.size_append]

theorem drop_app (a : ByteArray) (l : List UInt8) : (a.data.toList ++ l).drop a.size = l := by
  rw [Lib.size_eq]
  simp

theorem drop1 (a0 a1 : ByteArray) (k : Nat) : (a0 ++ nm k ++ ⟨#[32]⟩ ++ a1).data.toList.drop a0.size = nmL k ++ (32 :: a1.data.toList) := by
  rw [append_data, append_data, append_data, nm_data, List.append_assoc, List.append_assoc, drop_app]
  rfl
theorem drop2 (a0 : ByteArray) (k : Nat) : (a0 ++ nm k).data.toList.drop a0.size = nmL k ++ [] := by
  rw [append_data, nm_data, drop_app]
  simp
theorem drop3 (a0 a1 : ByteArray) (k : Nat) : (a0 ++ nm k ++ a1).data.toList.drop a0.size = nmL k ++ a1.data.toList := by
  rw [append_data, append_data, nm_data, List.append_assoc, drop_app]

theorem bound_ok (p q : ByteArray) (w : World) (h : p.size + q.size ≤ 1048576) :
    Calls Try.prog 4 #[.string p, .string q] w fun e w' => e = .returned (.bool true) ∧ w' = w := by
  have h1 : (p.size : Int) ≤ 1048576 := by omega
  have h2 : (q.size : Int) ≤ 1048576 := by omega
  have h3 : (p.size : Int) + (q.size : Int) ≤ 1048576 := by omega
  go_enter Try.func4, Try.ntmps4
  go_wp2
  go_ret
  exact ⟨rfl, rfl⟩

theorem bound_big (p q : ByteArray) (w : World) (h : 1048576 < p.size + q.size) (hp : p.size ≤ maxLen) (hq : q.size ≤ maxLen) :
    Calls Try.prog 4 #[.string p, .string q] w fun e w' => e = .returned (.bool false) ∧ w' = w := by
  unfold maxLen at hp hq
  by_cases h1 : (p.size : Int) ≤ 1048576
  · by_cases h2 : (q.size : Int) ≤ 1048576
    · have h3 : (1048576 : Int) < (p.size : Int) + (q.size : Int) := by omega
      go_enter Try.func4, Try.ntmps4
      go_wp2
      go_ret
      exact ⟨rfl, rfl⟩
    · have h3 : (1048576 : Int) < (q.size : Int) := by omega
      go_enter Try.func4, Try.ntmps4
      go_wp2
      go_ret
      exact ⟨rfl, rfl⟩
  · have h3 : (1048576 : Int) < (p.size : Int) := by omega
    go_enter Try.func4, Try.ntmps4
    go_wp2
    go_ret
    exact ⟨rfl, rfl⟩

set_option maxHeartbeats 400000 in
theorem tagName (k : Nat) (hk : k < 7) (w : World) :
    Calls Try.prog 5 #[.int .i64 (k : Int)] w fun e w' => e = .returned (.tuple #[.string (nm k), .int .u8 (tg k)]) ∧ w' = w := by
  obtain rfl | rfl | rfl | rfl | rfl | rfl | rfl := seven k hk
  all_goals
    go_enter Try.func5, Try.ntmps5
    go_wp2
    go_ret2
    exact ⟨rfl, rfl⟩

theorem zz (line : ByteArray) (a : Nat) (ha : a ≤ line.size) (hm : line.size ≤ 2097152) (i : Nat) (hi : i < 7) (tl : List UInt8) (b : Bool) (h : line.data.toList.drop a = nmL i ++ tl) (hb : okB tl = b) (w : World) :
    Calls Try.prog 6 #[.string line, .int .i64 a] w fun e w' => e = .returned (.tuple #[.int .u8 (tg i), .int .i64 (a + (nm i).size), .bool b]) ∧ ∃ n, w' = w.drewN n := by
  rw [nm_size, ← hb]
  exact zztagAt line a ha hm i hi tl h w

theorem walk_big (a0 : ByteArray) (a1 : ByteArray) (w0 : a0.size ≤ maxLen) (w1 : a1.size ≤ maxLen) (h : 1048576 < a0.size + a1.size) (w : World) :
    Calls Try.prog 3 #[.string a0, .string a1] w fun e w' => e = .returned (.bool true) ∧ Grown w w' := by
  go_enter Try.func3, Try.ntmps3
  go_wp2_with fail
  refine (bound_big a0 a1 _ h w0 w1).mono ?_
  rintro e w' ⟨rfl, rfl⟩
  go_wp2
  go_ret
  exact ⟨rfl, Grown.refl _⟩

set_option maxHeartbeats 2000000 in
set_option maxRecDepth 100000 in
theorem walk_ok (a0 : ByteArray) (a1 : ByteArray) (h : a0.size + a1.size ≤ 1048576) (w : World) :
    Calls Try.prog 3 #[.string a0, .string a1] w fun e w' => e = .returned (.bool true) ∧ Grown w w' := by
  have h1 : (a0.size : Int) ≤ 1048576 := by omega
  have h2 : (a1.size : Int) ≤ 1048576 := by omega
  have h3 : (a0.size : Int) + (a1.size : Int) ≤ 1048576 := by omega
  go_enter Try.func3, Try.ntmps3
  go_wp2_with fail
  refine (bound_ok a0 a1 _ h).mono ?_
  rintro e w' ⟨rfl, rfl⟩
  go_wp2
  go_loopw [6] (fun i wr => ∃ k : Nat, k ≤ 7 ∧ i = .int .i64 k ∧ Hid (Grown w' wr)) (fun i _ => 7 - (intOf i).toNat)
  case atStart => exact ⟨0, Nat.zero_le _, rfl, Grown.refl _⟩
  case round =>
    obtain ⟨k, hk, rfl, HG⟩ := hrel
    by_cases hlt : k < 7
    · have hn1 := (nmL_len k).1
      rw [← nm_size] at hn1
      have s1 : a0.size ≤ (a0 ++ nm k ++ ⟨#[32]⟩ ++ a1).size := by rw [append_size, append_size, append_size]; omega
      have s2 : (a0 ++ nm k ++ ⟨#[32]⟩ ++ a1).size ≤ 2097152 := by rw [append_size, append_size, append_size]; have : (⟨#[32]⟩ : ByteArray).size = 1 := rfl; omega
      have HZ1 : Hid (∀ w, Calls Try.prog 6 #[.string (a0 ++ nm k ++ ⟨#[32]⟩ ++ a1), .int .i64 a0.size] w fun e w' => e = .returned (.tuple #[.int .u8 (tg k), .int .i64 (a0.size + (nm k).size), .bool true]) ∧ ∃ n, w' = w.drewN n) :=
        fun w => zz _ a0.size s1 s2 k hlt _ true (drop1 a0 a1 k) rfl w
      have HZ2 : Hid (∀ w, Calls Try.prog 6 #[.string (a0 ++ nm k), .int .i64 a0.size] w fun e w' => e = .returned (.tuple #[.int .u8 (tg k), .int .i64 (a0.size + (nm k).size), .bool true]) ∧ ∃ n, w' = w.drewN n) :=
        fun w => zz _ a0.size (by rw [append_size]; omega) (by rw [append_size]; omega) k hlt _ true (drop2 a0 k) rfl w
      clear s1 s2
      have hT := tagName k hlt
      have hT3 : ¬ (0 : Int) < (a1.size : Int) ∨ ((0 : Int) < (a1.size : Int) ∧ ∀ w, (Instr.index 9 (.string a1) (.int .i64 0)).run Try.prog w = .ok (.int .u8 32) w) ∨
          (∃ c : UInt8, (0 : Int) < (a1.size : Int) ∧ ((c.toNat : Int) == 32) = false ∧ (∀ w, (Instr.index 9 (.string a1) (.int .i64 0)).run Try.prog w = .ok (.int .u8 (c.toNat : Int)) w) ∧
            Hid (∀ w, Calls Try.prog 6 #[.string (a0 ++ nm k ++ a1), .int .i64 a0.size] w fun e w' => e = .returned (.tuple #[.int .u8 (tg k), .int .i64 (a0.size + (nm k).size), .bool false]) ∧ ∃ n, w' = w.drewN n)) := by
        rcases follows a1 [] a1.data.toList rfl with ⟨e, g⟩ | ⟨c, t, e, rfl, g, ix⟩ | ⟨c, t, e, hne, hc, g, ix⟩
        · exact .inl (by have hz : a1.size = 0 := by rw [Lib.size_eq, e]; rfl
                         omega)
        · exact .inr (.inl ⟨by have hz := Lib.size_eq a1; rw [e] at hz; simp at hz; omega, ix⟩)
        · refine .inr (.inr ⟨c, by have hz := Lib.size_eq a1; rw [e] at hz; simp at hz; omega, hc, ix, fun w => zz _ a0.size (by rw [append_size, append_size]; omega) (by rw [append_size, append_size]; omega) k hlt a1.data.toList false (drop3 a0 a1 k) ?_ w⟩)
          rw [e]
          simp [okB, hne]
      have hn0 : (0 : Int) ≤ ((nm k).size : Int) := by omega
      have hn2 : ((nm k).size : Int) ≤ 7 := by omega
      go_wp2_with fail
      refine (hT _).mono ?_
      rintro e w1 ⟨rfl, rfl⟩
      go_wp2_with fail
      refine (HZ1.out _).mono ?_
      rintro e w1 ⟨rfl, n, rfl⟩
      go_wp2_with fail
      refine (HZ2.out _).mono ?_
      rintro e w1 ⟨rfl, n2, rfl⟩
      rcases hT3 with hz | ⟨hp, ix⟩ | ⟨c, hp, hc, ix, HZ3⟩
      · clear HZ1 HZ2 hT
        go_wp2
        go_roundw
        case rel => exact ⟨k + 1, by omega, by go_num, HG.out⟩
        case measure => simp [intOf]; omega
      · clear HZ1 HZ2 hT
        go_wp2
        go_roundw
        case rel => exact ⟨k + 1, by omega, by go_num, HG.out⟩
        case measure => simp [intOf]; omega
      · clear HZ1 HZ2 hT
        go_wp2_with fail
        refine (HZ3.out _).mono ?_
        rintro e w1 ⟨rfl, n3, rfl⟩
        go_wp2
        go_roundw
        case rel => exact ⟨k + 1, by omega, by go_num, HG.out⟩
        case measure => simp [intOf]; omega
    · go_wp2
      go_ret
      exact ⟨rfl, HG.out⟩
end Go.Proofs.Qxb6603038a
