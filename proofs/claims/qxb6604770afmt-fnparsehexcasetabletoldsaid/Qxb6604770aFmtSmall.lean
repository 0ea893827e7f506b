/-
  Seat b6604770aF: the small functions' walks: 5 (the bound on the length), 7 (zzHexVal).
-/
import Derived.Test.Qxb6604770aFmtRows
import Derived.WalkKit
import Derived.Test.Qxb6604770aFmtPlain
import Derived.WalkSpells
namespace Go.Proofs.Qxb6604770aFmt
open Go.RowKit

theorem ret_int {k : IntKind} {a b : Int} (h : a = b) : Ending.returned (.int k a) = .returned (.int k b) := by rw [h]

theorem bound_ok (s : ByteArray) (w : World) (h : s.size ≤ 1048576) :
    Calls Tryf.prog 5 #[.string s] w fun e w' => e = .returned (.bool true) ∧ w' = w := by
  have h' : (s.size : Int) ≤ 1048576 := by omega
  go_enter Tryf.func5, Tryf.ntmps5
  go_wp2
  go_ret
  exact ⟨rfl, rfl⟩

theorem bound_big (s : ByteArray) (w : World) (h : 1048576 < s.size) (hm : s.size ≤ maxLen) :
    Calls Tryf.prog 5 #[.string s] w fun e w' => e = .returned (.bool false) ∧ w' = w := by
  unfold maxLen at hm
  have h' : (1048576 : Int) < (s.size : Int) := by omega
  go_enter Tryf.func5, Tryf.ntmps5
  go_wp2
  go_ret
  exact ⟨rfl, rfl⟩

set_option maxHeartbeats 400000 in
theorem hexval (c : Int) (w : World) (h0 : 0 ≤ c) (h1 : c ≤ 255) :
    Calls Tryf.prog 7 #[.int .u8 c] w fun e w' => e = .returned (.int .i64 (hv c)) ∧ w' = w := by
  by_cases d1 : 48 ≤ c
  · by_cases d2 : c ≤ 57
    · have e := hv_digit c d1 d2
      rw [e]
      clear e
      go_enter Tryf.func7, Tryf.ntmps7
      go_wp2
      go_ret
      exact ⟨rfl, rfl⟩
    · by_cases a1 : 97 ≤ c
      · by_cases a2 : c ≤ 102
        · have e := hv_letter c a1 a2
          rw [e]
          clear e
          go_enter Tryf.func7, Tryf.ntmps7
          go_wp2
          go_ret
          exact ⟨ret_int (by omega), rfl⟩
        · have e := hv_other c (by omega) (by omega)
          rw [e]
          clear e
          go_enter Tryf.func7, Tryf.ntmps7
          go_wp2
          go_ret
          exact ⟨rfl, rfl⟩
      · have e := hv_other c (by omega) (by omega)
        rw [e]
        clear e
        go_enter Tryf.func7, Tryf.ntmps7
        go_wp2
        go_ret
        exact ⟨rfl, rfl⟩
  · have e := hv_other c (by omega) (by omega)
    rw [e]
    clear e
    have a1 : ¬ 97 ≤ c := by omega
    go_enter Tryf.func7, Tryf.ntmps7
    go_wp2
    go_ret
    exact ⟨rfl, rfl⟩
end Go.Proofs.Qxb6604770aFmt
