/-
  Seat b6603590a: compareBytes (10) and compareKeys (11) by contracts.
-/
import Derived.Test.Qxb6603590aHold
import Derived.Test.Qxb6603590aPlainOrder
import Derived.Deep.QuietTactic
import Derived.BigQuiet
import Derived.WalkSmall
namespace Go.Proofs.Qxb6603590a
open Go.RowKit

theorem draws2 (w : World) (a b : Nat) : ∃ q, (w.drewN a).drewN b = w.drewN q := ⟨_, World.drewN_drewN _ _ _⟩
theorem draws3 (w : World) (a b c : Nat) : ∃ q, ((w.drewN a).drewN b).drewN c = w.drewN q := by
  rw [World.drewN_drewN, World.drewN_drewN]
  exact ⟨_, rfl⟩

set_option maxHeartbeats 1000000 in
set_option maxRecDepth 100000 in
theorem cmpBytes_long (X Y : List Nat) (gx cx gy cy : Nat) (w : World) (hx : Holds8 w gx X) (hy : Holds8 w gy Y) (lx : X.length ≤ 4194304) (_ly : Y.length ≤ 4194304) (hxy : Y.length < X.length) :
    Calls Try.prog 10 #[.slice (some ⟨gx, 0, none⟩) X.length cx, .slice (some ⟨gy, 0, none⟩) Y.length cy] w fun e w' => e = .returned (.int .i64 (cmpL X Y)) ∧ ∃ q, w' = w.drewN q := by
  have hxy' : (Y.length : Int) < (X.length : Int) := by omega
  have hxy2 : ¬ (X.length : Int) < (Y.length : Int) := by omega
  have HX : Hid (Holds8 w gx X) := hx
  have HY : Hid (Holds8 w gy Y) := hy
  clear hx hy
  go_enter Try.func10, Try.ntmps10
  go_wp2
  go_loopw [6] (fun i wr => ∃ k q : Nat, k ≤ Y.length ∧ i = .int .i64 k ∧ wr = w.drewN q ∧ Hid (cmpL X Y = cmpL (X.drop k) (Y.drop k))) (fun i _ => Y.length - (intOf i).toNat)
  case atStart => exact ⟨0, 0, Nat.zero_le _, rfl, rfl, rfl⟩
  case round =>
    obtain ⟨k, q, hk, rfl, rfl, HC⟩ := hrel
    by_cases hlt : k < Y.length
    · have hkx : (k : Int) < (X.length : Int) := by omega
      have e1 := HX.out k (by omega)
      have e2 := HY.out k hlt
      have HS : Hid _ := cmp_step X Y k (by omega) hlt
      generalize X.getD k 0 = x at e1 HS
      generalize Y.getD k 0 = y at e2 HS
      by_cases a : (x : Int) < (y : Int)
      · have HR : Hid (cmpL X Y = -1) := HC.out.trans (HS.out.trans (if_pos (by omega)))
        clear HS HC
        go_wp2
        go_quiet (fail)
        go_wp2
        go_ret
        exact ⟨by rw [HR.out]; rfl, draws2 _ _ _⟩
      · by_cases b : (y : Int) < (x : Int)
        · have HR : Hid (cmpL X Y = 1) := HC.out.trans (HS.out.trans ((if_neg (by omega)).trans (if_pos (by omega))))
          have a' : decide ((x : Int) < (y : Int)) = false := by simpa using a
          clear HS HC
          go_wp2
          go_quiet (fail)
          go_wp2
          go_quiet (fail)
          go_wp2
          go_ret
          exact ⟨by rw [HR.out]; rfl, draws3 _ _ _ _⟩
        · have HR : Hid (cmpL X Y = cmpL (X.drop (k + 1)) (Y.drop (k + 1))) := HC.out.trans (HS.out.trans ((if_neg (by omega)).trans (if_neg (by omega))))
          clear HS HC
          go_wp2
          go_quiet (fail)
          go_wp2
          go_quiet (fail)
          go_wp2
          go_roundw
          case rel => exact ⟨k + 1, _, by omega, by go_num, rfl, HR.out⟩
          case measure => simp [intOf]; omega
    · have HR : Hid (cmpL X Y = 1) := HC.out.trans (cmp_more X Y k (by omega) (by omega))
      clear HC
      go_wp2
      go_ret
      exact ⟨by rw [HR.out]; rfl, _, rfl⟩
set_option maxHeartbeats 1000000 in
set_option maxRecDepth 100000 in
theorem cmpBytes_short (X Y : List Nat) (gx cx gy cy : Nat) (w : World) (hx : Holds8 w gx X) (hy : Holds8 w gy Y) (_lx : X.length ≤ 4194304) (ly : Y.length ≤ 4194304) (hxy : X.length ≤ Y.length) :
    Calls Try.prog 10 #[.slice (some ⟨gx, 0, none⟩) X.length cx, .slice (some ⟨gy, 0, none⟩) Y.length cy] w fun e w' => e = .returned (.int .i64 (cmpL X Y)) ∧ ∃ q, w' = w.drewN q := by
  have hxy' : ¬ (Y.length : Int) < (X.length : Int) := by omega
  have HX : Hid (Holds8 w gx X) := hx
  have HY : Hid (Holds8 w gy Y) := hy
  clear hx hy
  go_enter Try.func10, Try.ntmps10
  go_wp2
  go_loopw [6] (fun i wr => ∃ k q : Nat, k ≤ X.length ∧ i = .int .i64 k ∧ wr = w.drewN q ∧ Hid (cmpL X Y = cmpL (X.drop k) (Y.drop k))) (fun i _ => X.length - (intOf i).toNat)
  case atStart => exact ⟨0, 0, Nat.zero_le _, rfl, rfl, rfl⟩
  case round =>
    obtain ⟨k, q, hk, rfl, rfl, HC⟩ := hrel
    by_cases hlt : k < X.length
    · have hkx : (k : Int) < (Y.length : Int) := by omega
      have e1 := HX.out k hlt
      have e2 := HY.out k (by omega)
      have HS : Hid _ := cmp_step X Y k hlt (by omega)
      generalize X.getD k 0 = x at e1 HS
      generalize Y.getD k 0 = y at e2 HS
      by_cases a : (x : Int) < (y : Int)
      · have HR : Hid (cmpL X Y = -1) := HC.out.trans (HS.out.trans (if_pos (by omega)))
        clear HS HC
        go_wp2
        go_quiet (fail)
        go_wp2
        go_ret
        exact ⟨by rw [HR.out]; rfl, draws2 _ _ _⟩
      · by_cases b : (y : Int) < (x : Int)
        · have HR : Hid (cmpL X Y = 1) := HC.out.trans (HS.out.trans ((if_neg (by omega)).trans (if_pos (by omega))))
          have a' : decide ((x : Int) < (y : Int)) = false := by simpa using a
          clear HS HC
          go_wp2
          go_quiet (fail)
          go_wp2
          go_quiet (fail)
          go_wp2
          go_ret
          exact ⟨by rw [HR.out]; rfl, draws3 _ _ _ _⟩
        · have HR : Hid (cmpL X Y = cmpL (X.drop (k + 1)) (Y.drop (k + 1))) := HC.out.trans (HS.out.trans ((if_neg (by omega)).trans (if_neg (by omega))))
          clear HS HC
          go_wp2
          go_quiet (fail)
          go_wp2
          go_quiet (fail)
          go_wp2
          go_roundw
          case rel => exact ⟨k + 1, _, by omega, by go_num, rfl, HR.out⟩
          case measure => simp [intOf]; omega
    · by_cases hl : X.length < Y.length
      · have HR : Hid (cmpL X Y = -1) := HC.out.trans (cmp_less X Y k (by omega) (by omega))
        have hl' : (X.length : Int) < (Y.length : Int) := by omega
        clear HC
        go_wp2
        go_ret
        exact ⟨by rw [HR.out]; rfl, _, rfl⟩
      · have HR : Hid (cmpL X Y = 0) := HC.out.trans (cmp_same X Y k (by omega) (by omega))
        have hl' : ¬ (X.length : Int) < (Y.length : Int) := by omega
        clear HC
        go_wp2
        go_ret
        exact ⟨by rw [HR.out]; rfl, _, rfl⟩

theorem cmpBytes (X Y : List Nat) (gx cx gy cy : Nat) (w : World) (hx : Holds8 w gx X) (hy : Holds8 w gy Y) (lx : X.length ≤ 4194304) (ly : Y.length ≤ 4194304) :
    Calls Try.prog 10 #[.slice (some ⟨gx, 0, none⟩) X.length cx, .slice (some ⟨gy, 0, none⟩) Y.length cy] w fun e w' => e = .returned (.int .i64 (cmpL X Y)) ∧ ∃ q, w' = w.drewN q := by
  by_cases h : Y.length < X.length
  · exact cmpBytes_long X Y gx cx gy cy w hx hy lx ly h
  · exact cmpBytes_short X Y gx cx gy cy w hx hy lx ly (by omega)

/-- What is known of a slice of coordinates of the law's own, its cases not parted. -/
def Holds16 (w : World) (a : Option Addr) (g : Nat) (zs : List Nat) : Prop :=
  (0 < zs.length → a = some ⟨g, 0, none⟩) ∧ ∀ i, i < zs.length → w.cell? ⟨g, i, none⟩ = some (.int .u16 ((zs.getD i 0 : Nat) : Int))

set_option maxHeartbeats 1000000 in
set_option maxRecDepth 100000 in
theorem cmpKeys_loop (s : Nat) (X Y : List Nat) (ax ay : Option Addr) (gx gy : Nat) (w : World) (hx : Holds16 w ax gx X) (hy : Holds16 w ay gy Y) (lx : X.length ≤ 65535) (_ly : Y.length ≤ 65535) (hxy : X.length ≤ Y.length) (hyx : Y.length ≤ X.length) :
    Calls Try.prog 11 #[.int .u64 (s : Int), .slice ax X.length X.length, .int .u64 (s : Int), .slice ay Y.length Y.length] w fun e w' => e = .returned (.int .i64 (cmpL X Y)) ∧ ∃ q, w' = w.drewN q := by
  have hxy' : ¬ (Y.length : Int) < (X.length : Int) := by omega
  have hxy2 : ¬ (X.length : Int) < (Y.length : Int) := by omega
  have HX : Hid (Holds16 w ax gx X) := hx
  have HY : Hid (Holds16 w ay gy Y) := hy
  clear hx hy
  go_enter Try.func11, Try.ntmps11
  go_wp2
  go_loopw [9] (fun i wr => ∃ k q : Nat, k ≤ X.length ∧ i = .int .i64 k ∧ wr = w.drewN q ∧ Hid (cmpL X Y = cmpL (X.drop k) (Y.drop k))) (fun i _ => X.length - (intOf i).toNat)
  case atStart => exact ⟨0, 0, Nat.zero_le _, rfl, rfl, rfl⟩
  case round =>
    obtain ⟨k, q, hk, rfl, rfl, HC⟩ := hrel
    by_cases hlt : k < X.length
    · have hkx : (k : Int) < (Y.length : Int) := by omega
      obtain rfl := HX.out.1 (by omega)
      obtain rfl := HY.out.1 (by omega)
      have e1 := HX.out.2 k hlt
      have e2 := HY.out.2 k (by omega)
      have HS : Hid _ := cmp_step X Y k hlt (by omega)
      generalize X.getD k 0 = x at e1 HS
      generalize Y.getD k 0 = y at e2 HS
      by_cases a : (x : Int) < (y : Int)
      · have HR : Hid (cmpL X Y = -1) := HC.out.trans (HS.out.trans (if_pos (by omega)))
        clear HS HC
        go_wp2
        go_quiet (fail)
        go_wp2
        go_ret
        exact ⟨by rw [HR.out]; rfl, draws2 _ _ _⟩
      · by_cases b : (y : Int) < (x : Int)
        · have HR : Hid (cmpL X Y = 1) := HC.out.trans (HS.out.trans ((if_neg (by omega)).trans (if_pos (by omega))))
          clear HS HC
          go_wp2
          go_quiet (fail)
          go_wp2
          go_quiet (fail)
          go_wp2
          go_ret
          exact ⟨by rw [HR.out]; rfl, draws3 _ _ _ _⟩
        · have HR : Hid (cmpL X Y = cmpL (X.drop (k + 1)) (Y.drop (k + 1))) := HC.out.trans (HS.out.trans ((if_neg (by omega)).trans (if_neg (by omega))))
          clear HS HC
          go_wp2
          go_quiet (fail)
          go_wp2
          go_quiet (fail)
          go_wp2
          go_roundw
          case rel => exact ⟨k + 1, _, by omega, by go_num, rfl, HR.out⟩
          case measure => simp [intOf]; omega
    · have HR : Hid (cmpL X Y = 0) := HC.out.trans (cmp_same X Y k (by omega) (by omega))
      clear HC
      go_wp2
      go_ret
      exact ⟨by rw [HR.out]; rfl, _, rfl⟩

theorem cmpKeys (s1 s2 : Nat) (X Y : List Nat) (ax ay : Option Addr) (gx gy : Nat) (w : World) (hx : Holds16 w ax gx X) (hy : Holds16 w ay gy Y) (lx : X.length ≤ 65535) (ly : Y.length ≤ 65535) :
    Calls Try.prog 11 #[.int .u64 (s1 : Int), .slice ax X.length X.length, .int .u64 (s2 : Int), .slice ay Y.length Y.length] w fun e w' => e = .returned (.int .i64 (cmpK s1 X s2 Y)) ∧ ∃ q, w' = w.drewN q := by
  unfold cmpK
  by_cases h1 : s1 < s2
  · rw [if_pos h1]
    have h1' : (s1 : Int) < (s2 : Int) := by omega
    go_enter Try.func11, Try.ntmps11
    go_wp2
    go_ret
    exact ⟨rfl, 0, rfl⟩
  · rw [if_neg h1]
    have h1' : ¬ (s1 : Int) < (s2 : Int) := by omega
    by_cases h2 : s2 < s1
    · rw [if_pos h2]
      have h2' : (s2 : Int) < (s1 : Int) := by omega
      go_enter Try.func11, Try.ntmps11
      go_wp2
      go_ret
      exact ⟨rfl, 0, rfl⟩
    · rw [if_neg h2]
      obtain rfl : s1 = s2 := by omega
      clear h1 h1' h2
      by_cases h3 : X.length < Y.length
      · rw [if_pos h3]
        have h3' : (X.length : Int) < (Y.length : Int) := by omega
        go_enter Try.func11, Try.ntmps11
        go_wp2
        go_ret
        exact ⟨rfl, 0, rfl⟩
      · rw [if_neg h3]
        by_cases h4 : Y.length < X.length
        · rw [if_pos h4]
          have h3' : ¬ (X.length : Int) < (Y.length : Int) := by omega
          have h4' : (Y.length : Int) < (X.length : Int) := by omega
          go_enter Try.func11, Try.ntmps11
          go_wp2
          go_ret
          exact ⟨rfl, 0, rfl⟩
        · rw [if_neg h4]
          exact cmpKeys_loop s1 X Y ax ay gx gy w hx hy lx ly (by omega) (by omega)
end Go.Proofs.Qxb6603590a
