/-
  Seat b6603038a: tagAt (7) and ZZtagAt (6) by contracts.
-/
import Derived.Test.Qxb6603038aRows
import Derived.Test.Qxb6603038aShelf
import Derived.Test.Qxb6603038aPlain
import Derived.WalkKit
import Derived.WalkSpells
import Derived.Deep.QuietTactic
import Derived.BigQuiet
namespace Go.Proofs.Qxb6603038a
open Go.RowKit

theorem index_at (s : ByteArray) (i : Int) (n : Nat) (h : i = (n : Int)) (c : UInt8) (hc : s.data.toList[n]? = some c) (w : World) :
    (Instr.index 9 (.string s) (.int .i64 i)).run Try.prog w = .ok (.int .u8 (c.toNat : Int)) w := by
  subst h
  have hn : n < s.size := by
    rw [Lib.size_eq]
    exact (List.getElem?_eq_some_iff.1 hc).1
  rw [run_index_string w 9 s .i64 n Try.underlying9, dif_pos (by omega)]
  simp only [Int.toNat_natCast]
  have e : s.data.toList[n]? = some s[n] := by
    have hn' : n < s.data.size := hn
    rw [Array.getElem?_toList, Array.getElem?_eq_getElem hn']
    rfl
  rw [Option.some.inj (e.symm.trans hc)]

/-- What the walk is told of what follows the name. -/
def Follows (R : ByteArray) (L : Nat) (tl : List UInt8) : Prop :=
  ((tl = [] ∧ ((R.size : Int) == (L : Int)) = true) ∨
   (∃ c t, tl = c :: t ∧ c = 32 ∧ ((R.size : Int) == (L : Int)) = false ∧ ∀ w, (Instr.index 9 (.string R) (.int .i64 (L : Int))).run Try.prog w = .ok (.int .u8 32) w) ∨
   (∃ c t, tl = c :: t ∧ c ≠ 32 ∧ ((c.toNat : Int) == 32) = false ∧ ((R.size : Int) == (L : Int)) = false ∧ ∀ w, (Instr.index 9 (.string R) (.int .i64 (L : Int))).run Try.prog w = .ok (.int .u8 (c.toNat : Int)) w))

theorem follows (R : ByteArray) (nm tl : List UInt8) (h : R.data.toList = nm ++ tl) : Follows R nm.length tl := by
  have hs : R.size = nm.length + tl.length := by rw [Lib.size_eq, h, List.length_append]
  match tl, h with
  | [], h => exact .inl ⟨rfl, by rw [hs]; simp⟩
  | c :: t, h =>
    have hc : R.data.toList[nm.length]? = some c := by rw [h]; simp
    have hz : ((R.size : Int) == (nm.length : Int)) = false := by rw [hs]; simp; omega
    have hi := fun w => index_at R (nm.length : Int) nm.length rfl c hc w
    by_cases e : c = 32
    · subst e
      exact .inr (.inl ⟨_, t, rfl, rfl, hz, hi⟩)
    · refine .inr (.inr ⟨c, t, rfl, e, ?_, hz, hi⟩)
      rw [beq_eq_false_iff_ne]
      intro hx
      apply e
      apply UInt8.toNat.inj
      show c.toNat = 32
      omega

set_option maxHeartbeats 1000000 in
theorem tag_0 (line : ByteArray) (a : Nat) (ha : a ≤ line.size) (hm : line.size ≤ 2097152) (tl : List UInt8) (h : line.data.toList.drop a = nmL 0 ++ tl) (w : World) :
    Calls Try.prog 7 #[.string line, .int .i64 a] w fun e w' => e = .returned (.tuple #[.int .u8 (tg 0), .int .i64 (a + (nmL 0).length), .bool (okB tl)]) ∧ ∃ n, w' = w.drewN n := by
  have hR := (rest_data line a).trans h
  obtain ⟨f0, f1, f2, f3, f4, f5, f6⟩ := pfs 0 (by omega) tl _ hR
  have hF := follows _ _ _ hR
  clear hR h
  go_enter Try.func7, Try.ntmps7
  go_wp2_with (go_at_call 8; refine (Try.strings_HasPrefix _ _ _).mono ?_; rintro e w' ⟨rfl, rfl⟩; (first | rw [f0] | rw [f1] | rw [f2] | rw [f3] | rw [f4] | rw [f5] | rw [f6]))
  clear f0 f1 f2 f3 f4 f5 f6
  generalize line.extract a line.size = R at hF
  rcases hF with ⟨rfl, g⟩ | ⟨c, t, rfl, rfl, g, ix⟩ | ⟨c, t, rfl, hc, hc', g, ix⟩
  · have g' : ((R.size : Int) == 5) = true := g
    clear g
    go_quiet (fail)
    go_wp2
    go_ret3
    exact ⟨rfl, _, rfl⟩
  · have g' : ((R.size : Int) == 5) = false := g
    have ix' : ∀ w, (Instr.index 9 (.string R) (.int .i64 5)).run Try.prog w = .ok (.int .u8 32) w := ix
    clear g ix
    go_quiet (fail)
    go_wp2
    go_ret3
    exact ⟨rfl, _, rfl⟩
  · have g' : ((R.size : Int) == 5) = false := g
    have ix' : ∀ w, (Instr.index 9 (.string R) (.int .i64 5)).run Try.prog w = .ok (.int .u8 (c.toNat : Int)) w := ix
    have HK : Hid (okB (c :: t) = false) := by show okB (c :: t) = false; simp [okB, hc]
    clear g ix hc
    go_quiet (fail)
    go_wp2
    go_ret3
    exact ⟨by rw [HK.out]; rfl, _, rfl⟩

set_option maxHeartbeats 1000000 in
theorem tag_1 (line : ByteArray) (a : Nat) (ha : a ≤ line.size) (hm : line.size ≤ 2097152) (tl : List UInt8) (h : line.data.toList.drop a = nmL 1 ++ tl) (w : World) :
    Calls Try.prog 7 #[.string line, .int .i64 a] w fun e w' => e = .returned (.tuple #[.int .u8 (tg 1), .int .i64 (a + (nmL 1).length), .bool (okB tl)]) ∧ ∃ n, w' = w.drewN n := by
  have hR := (rest_data line a).trans h
  obtain ⟨f0, f1, f2, f3, f4, f5, f6⟩ := pfs 1 (by omega) tl _ hR
  have hF := follows _ _ _ hR
  clear hR h
  go_enter Try.func7, Try.ntmps7
  go_wp2_with (go_at_call 8; refine (Try.strings_HasPrefix _ _ _).mono ?_; rintro e w' ⟨rfl, rfl⟩; (first | rw [f0] | rw [f1] | rw [f2] | rw [f3] | rw [f4] | rw [f5] | rw [f6]))
  clear f0 f1 f2 f3 f4 f5 f6
  generalize line.extract a line.size = R at hF
  rcases hF with ⟨rfl, g⟩ | ⟨c, t, rfl, rfl, g, ix⟩ | ⟨c, t, rfl, hc, hc', g, ix⟩
  · have g' : ((R.size : Int) == 6) = true := g
    clear g
    go_quiet (fail)
    go_wp2
    go_ret3
    exact ⟨rfl, _, rfl⟩
  · have g' : ((R.size : Int) == 6) = false := g
    have ix' : ∀ w, (Instr.index 9 (.string R) (.int .i64 6)).run Try.prog w = .ok (.int .u8 32) w := ix
    clear g ix
    go_quiet (fail)
    go_wp2
    go_ret3
    exact ⟨rfl, _, rfl⟩
  · have g' : ((R.size : Int) == 6) = false := g
    have ix' : ∀ w, (Instr.index 9 (.string R) (.int .i64 6)).run Try.prog w = .ok (.int .u8 (c.toNat : Int)) w := ix
    have HK : Hid (okB (c :: t) = false) := by show okB (c :: t) = false; simp [okB, hc]
    clear g ix hc
    go_quiet (fail)
    go_wp2
    go_ret3
    exact ⟨by rw [HK.out]; rfl, _, rfl⟩

set_option maxHeartbeats 1000000 in
theorem tag_2 (line : ByteArray) (a : Nat) (ha : a ≤ line.size) (hm : line.size ≤ 2097152) (tl : List UInt8) (h : line.data.toList.drop a = nmL 2 ++ tl) (w : World) :
    Calls Try.prog 7 #[.string line, .int .i64 a] w fun e w' => e = .returned (.tuple #[.int .u8 (tg 2), .int .i64 (a + (nmL 2).length), .bool (okB tl)]) ∧ ∃ n, w' = w.drewN n := by
  have hR := (rest_data line a).trans h
  obtain ⟨f0, f1, f2, f3, f4, f5, f6⟩ := pfs 2 (by omega) tl _ hR
  have hF := follows _ _ _ hR
  clear hR h
  go_enter Try.func7, Try.ntmps7
  go_wp2_with (go_at_call 8; refine (Try.strings_HasPrefix _ _ _).mono ?_; rintro e w' ⟨rfl, rfl⟩; (first | rw [f0] | rw [f1] | rw [f2] | rw [f3] | rw [f4] | rw [f5] | rw [f6]))
  clear f0 f1 f2 f3 f4 f5 f6
  generalize line.extract a line.size = R at hF
  rcases hF with ⟨rfl, g⟩ | ⟨c, t, rfl, rfl, g, ix⟩ | ⟨c, t, rfl, hc, hc', g, ix⟩
  · have g' : ((R.size : Int) == 6) = true := g
    clear g
    go_quiet (fail)
    go_wp2
    go_ret3
    exact ⟨rfl, _, rfl⟩
  · have g' : ((R.size : Int) == 6) = false := g
    have ix' : ∀ w, (Instr.index 9 (.string R) (.int .i64 6)).run Try.prog w = .ok (.int .u8 32) w := ix
    clear g ix
    go_quiet (fail)
    go_wp2
    go_ret3
    exact ⟨rfl, _, rfl⟩
  · have g' : ((R.size : Int) == 6) = false := g
    have ix' : ∀ w, (Instr.index 9 (.string R) (.int .i64 6)).run Try.prog w = .ok (.int .u8 (c.toNat : Int)) w := ix
    have HK : Hid (okB (c :: t) = false) := by show okB (c :: t) = false; simp [okB, hc]
    clear g ix hc
    go_quiet (fail)
    go_wp2
    go_ret3
    exact ⟨by rw [HK.out]; rfl, _, rfl⟩

set_option maxHeartbeats 1000000 in
theorem tag_3 (line : ByteArray) (a : Nat) (ha : a ≤ line.size) (hm : line.size ≤ 2097152) (tl : List UInt8) (h : line.data.toList.drop a = nmL 3 ++ tl) (w : World) :
    Calls Try.prog 7 #[.string line, .int .i64 a] w fun e w' => e = .returned (.tuple #[.int .u8 (tg 3), .int .i64 (a + (nmL 3).length), .bool (okB tl)]) ∧ ∃ n, w' = w.drewN n := by
  have hR := (rest_data line a).trans h
  obtain ⟨f0, f1, f2, f3, f4, f5, f6⟩ := pfs 3 (by omega) tl _ hR
  have hF := follows _ _ _ hR
  clear hR h
  go_enter Try.func7, Try.ntmps7
  go_wp2_with (go_at_call 8; refine (Try.strings_HasPrefix _ _ _).mono ?_; rintro e w' ⟨rfl, rfl⟩; (first | rw [f0] | rw [f1] | rw [f2] | rw [f3] | rw [f4] | rw [f5] | rw [f6]))
  clear f0 f1 f2 f3 f4 f5 f6
  generalize line.extract a line.size = R at hF
  rcases hF with ⟨rfl, g⟩ | ⟨c, t, rfl, rfl, g, ix⟩ | ⟨c, t, rfl, hc, hc', g, ix⟩
  · have g' : ((R.size : Int) == 5) = true := g
    clear g
    go_quiet (fail)
    go_wp2
    go_ret3
    exact ⟨rfl, _, rfl⟩
  · have g' : ((R.size : Int) == 5) = false := g
    have ix' : ∀ w, (Instr.index 9 (.string R) (.int .i64 5)).run Try.prog w = .ok (.int .u8 32) w := ix
    clear g ix
    go_quiet (fail)
    go_wp2
    go_ret3
    exact ⟨rfl, _, rfl⟩
  · have g' : ((R.size : Int) == 5) = false := g
    have ix' : ∀ w, (Instr.index 9 (.string R) (.int .i64 5)).run Try.prog w = .ok (.int .u8 (c.toNat : Int)) w := ix
    have HK : Hid (okB (c :: t) = false) := by show okB (c :: t) = false; simp [okB, hc]
    clear g ix hc
    go_quiet (fail)
    go_wp2
    go_ret3
    exact ⟨by rw [HK.out]; rfl, _, rfl⟩

set_option maxHeartbeats 1000000 in
theorem tag_4 (line : ByteArray) (a : Nat) (ha : a ≤ line.size) (hm : line.size ≤ 2097152) (tl : List UInt8) (h : line.data.toList.drop a = nmL 4 ++ tl) (w : World) :
    Calls Try.prog 7 #[.string line, .int .i64 a] w fun e w' => e = .returned (.tuple #[.int .u8 (tg 4), .int .i64 (a + (nmL 4).length), .bool (okB tl)]) ∧ ∃ n, w' = w.drewN n := by
  have hR := (rest_data line a).trans h
  obtain ⟨f0, f1, f2, f3, f4, f5, f6⟩ := pfs 4 (by omega) tl _ hR
  have hF := follows _ _ _ hR
  clear hR h
  go_enter Try.func7, Try.ntmps7
  go_wp2_with (go_at_call 8; refine (Try.strings_HasPrefix _ _ _).mono ?_; rintro e w' ⟨rfl, rfl⟩; (first | rw [f0] | rw [f1] | rw [f2] | rw [f3] | rw [f4] | rw [f5] | rw [f6]))
  clear f0 f1 f2 f3 f4 f5 f6
  generalize line.extract a line.size = R at hF
  rcases hF with ⟨rfl, g⟩ | ⟨c, t, rfl, rfl, g, ix⟩ | ⟨c, t, rfl, hc, hc', g, ix⟩
  · have g' : ((R.size : Int) == 7) = true := g
    clear g
    go_quiet (fail)
    go_wp2
    go_ret3
    exact ⟨rfl, _, rfl⟩
  · have g' : ((R.size : Int) == 7) = false := g
    have ix' : ∀ w, (Instr.index 9 (.string R) (.int .i64 7)).run Try.prog w = .ok (.int .u8 32) w := ix
    clear g ix
    go_quiet (fail)
    go_wp2
    go_ret3
    exact ⟨rfl, _, rfl⟩
  · have g' : ((R.size : Int) == 7) = false := g
    have ix' : ∀ w, (Instr.index 9 (.string R) (.int .i64 7)).run Try.prog w = .ok (.int .u8 (c.toNat : Int)) w := ix
    have HK : Hid (okB (c :: t) = false) := by show okB (c :: t) = false; simp [okB, hc]
    clear g ix hc
    go_quiet (fail)
    go_wp2
    go_ret3
    exact ⟨by rw [HK.out]; rfl, _, rfl⟩

set_option maxHeartbeats 1000000 in
theorem tag_5 (line : ByteArray) (a : Nat) (ha : a ≤ line.size) (hm : line.size ≤ 2097152) (tl : List UInt8) (h : line.data.toList.drop a = nmL 5 ++ tl) (w : World) :
    Calls Try.prog 7 #[.string line, .int .i64 a] w fun e w' => e = .returned (.tuple #[.int .u8 (tg 5), .int .i64 (a + (nmL 5).length), .bool (okB tl)]) ∧ ∃ n, w' = w.drewN n := by
  have hR := (rest_data line a).trans h
  obtain ⟨f0, f1, f2, f3, f4, f5, f6⟩ := pfs 5 (by omega) tl _ hR
  have hF := follows _ _ _ hR
  clear hR h
  go_enter Try.func7, Try.ntmps7
  go_wp2_with (go_at_call 8; refine (Try.strings_HasPrefix _ _ _).mono ?_; rintro e w' ⟨rfl, rfl⟩; (first | rw [f0] | rw [f1] | rw [f2] | rw [f3] | rw [f4] | rw [f5] | rw [f6]))
  clear f0 f1 f2 f3 f4 f5 f6
  generalize line.extract a line.size = R at hF
  rcases hF with ⟨rfl, g⟩ | ⟨c, t, rfl, rfl, g, ix⟩ | ⟨c, t, rfl, hc, hc', g, ix⟩
  · have g' : ((R.size : Int) == 5) = true := g
    clear g
    go_quiet (fail)
    go_wp2
    go_ret3
    exact ⟨rfl, _, rfl⟩
  · have g' : ((R.size : Int) == 5) = false := g
    have ix' : ∀ w, (Instr.index 9 (.string R) (.int .i64 5)).run Try.prog w = .ok (.int .u8 32) w := ix
    clear g ix
    go_quiet (fail)
    go_wp2
    go_ret3
    exact ⟨rfl, _, rfl⟩
  · have g' : ((R.size : Int) == 5) = false := g
    have ix' : ∀ w, (Instr.index 9 (.string R) (.int .i64 5)).run Try.prog w = .ok (.int .u8 (c.toNat : Int)) w := ix
    have HK : Hid (okB (c :: t) = false) := by show okB (c :: t) = false; simp [okB, hc]
    clear g ix hc
    go_quiet (fail)
    go_wp2
    go_ret3
    exact ⟨by rw [HK.out]; rfl, _, rfl⟩

set_option maxHeartbeats 1000000 in
theorem tag_6 (line : ByteArray) (a : Nat) (ha : a ≤ line.size) (hm : line.size ≤ 2097152) (tl : List UInt8) (h : line.data.toList.drop a = nmL 6 ++ tl) (w : World) :
    Calls Try.prog 7 #[.string line, .int .i64 a] w fun e w' => e = .returned (.tuple #[.int .u8 (tg 6), .int .i64 (a + (nmL 6).length), .bool (okB tl)]) ∧ ∃ n, w' = w.drewN n := by
  have hR := (rest_data line a).trans h
  obtain ⟨f0, f1, f2, f3, f4, f5, f6⟩ := pfs 6 (by omega) tl _ hR
  have hF := follows _ _ _ hR
  clear hR h
  go_enter Try.func7, Try.ntmps7
  go_wp2_with (go_at_call 8; refine (Try.strings_HasPrefix _ _ _).mono ?_; rintro e w' ⟨rfl, rfl⟩; (first | rw [f0] | rw [f1] | rw [f2] | rw [f3] | rw [f4] | rw [f5] | rw [f6]))
  clear f0 f1 f2 f3 f4 f5 f6
  generalize line.extract a line.size = R at hF
  rcases hF with ⟨rfl, g⟩ | ⟨c, t, rfl, rfl, g, ix⟩ | ⟨c, t, rfl, hc, hc', g, ix⟩
  · have g' : ((R.size : Int) == 5) = true := g
    clear g
    go_quiet (fail)
    go_wp2
    go_ret3
    exact ⟨rfl, _, rfl⟩
  · have g' : ((R.size : Int) == 5) = false := g
    have ix' : ∀ w, (Instr.index 9 (.string R) (.int .i64 5)).run Try.prog w = .ok (.int .u8 32) w := ix
    clear g ix
    go_quiet (fail)
    go_wp2
    go_ret3
    exact ⟨rfl, _, rfl⟩
  · have g' : ((R.size : Int) == 5) = false := g
    have ix' : ∀ w, (Instr.index 9 (.string R) (.int .i64 5)).run Try.prog w = .ok (.int .u8 (c.toNat : Int)) w := ix
    have HK : Hid (okB (c :: t) = false) := by show okB (c :: t) = false; simp [okB, hc]
    clear g ix hc
    go_quiet (fail)
    go_wp2
    go_ret3
    exact ⟨by rw [HK.out]; rfl, _, rfl⟩

theorem tagAt (line : ByteArray) (a : Nat) (ha : a ≤ line.size) (hm : line.size ≤ 2097152) (i : Nat) (hi : i < 7) (tl : List UInt8) (h : line.data.toList.drop a = nmL i ++ tl) (w : World) :
    Calls Try.prog 7 #[.string line, .int .i64 a] w fun e w' => e = .returned (.tuple #[.int .u8 (tg i), .int .i64 (a + (nmL i).length), .bool (okB tl)]) ∧ ∃ n, w' = w.drewN n := by
  obtain rfl | rfl | rfl | rfl | rfl | rfl | rfl := seven i hi
  · exact tag_0 line a ha hm tl h w
  · exact tag_1 line a ha hm tl h w
  · exact tag_2 line a ha hm tl h w
  · exact tag_3 line a ha hm tl h w
  · exact tag_4 line a ha hm tl h w
  · exact tag_5 line a ha hm tl h w
  · exact tag_6 line a ha hm tl h w

set_option maxHeartbeats 400000 in
/-- ZZtagAt. -/
theorem zztagAt (line : ByteArray) (a : Nat) (ha : a ≤ line.size) (hm : line.size ≤ 2097152) (i : Nat) (hi : i < 7) (tl : List UInt8) (h : line.data.toList.drop a = nmL i ++ tl) (w : World) :
    Calls Try.prog 6 #[.string line, .int .i64 a] w fun e w' => e = .returned (.tuple #[.int .u8 (tg i), .int .i64 (a + (nmL i).length), .bool (okB tl)]) ∧ ∃ n, w' = w.drewN n := by
  go_enter Try.func6, Try.ntmps6
  go_wp2_with fail
  refine (tagAt line a ha hm i hi tl h w).mono ?_
  rintro e w' ⟨rfl, n, rfl⟩
  go_wp2
  go_ret3
  exact ⟨rfl, _, rfl⟩
end Go.Proofs.Qxb6603038a
