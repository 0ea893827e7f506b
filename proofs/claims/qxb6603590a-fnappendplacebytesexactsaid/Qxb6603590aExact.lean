/-
  Seat b6603590a: the walk of FnAppendPlaceBytesExact (3), with its bound (5).
-/
import Derived.Test.Qxb6603590aHold
import Derived.Deep.QuietTactic
import Derived.BigQuiet
import Derived.WalkSmall
namespace Go.Proofs.Qxb6603590a
open Go.RowKit

theorem bound5_ok (a : Option Addr) (l c : Nat) (s : Int) (a' : Option Addr) (l' c' : Nat) (w : World) (h : l + l' ≤ 1048576) :
    Calls Try.prog 5 #[.slice a l c, .int .u64 s, .slice a' l' c'] w fun e w' => e = .returned (.bool true) ∧ w' = w := by
  have h1 : (l : Int) ≤ 1048576 := by omega
  have h2 : (l' : Int) ≤ 1048576 := by omega
  have h3 : (l : Int) + (l' : Int) ≤ 1048576 := by omega
  go_enter Try.func5, Try.ntmps5
  go_wp2
  go_ret
  exact ⟨rfl, rfl⟩

theorem bound5_big (a : Option Addr) (l c : Nat) (s : Int) (a' : Option Addr) (l' c' : Nat) (w : World) (h : 1048576 < l + l') (hl : l ≤ maxLen) (hl' : l' ≤ maxLen) :
    Calls Try.prog 5 #[.slice a l c, .int .u64 s, .slice a' l' c'] w fun e w' => e = .returned (.bool false) ∧ w' = w := by
  unfold maxLen at hl hl'
  by_cases h1 : (l : Int) ≤ 1048576
  · by_cases h2 : (l' : Int) ≤ 1048576
    · have h3 : (1048576 : Int) < (l : Int) + (l' : Int) := by omega
      go_enter Try.func5, Try.ntmps5
      go_wp2
      go_ret
      exact ⟨rfl, rfl⟩
    · have h3 : (1048576 : Int) < (l' : Int) := by omega
      go_enter Try.func5, Try.ntmps5
      go_wp2
      go_ret
      exact ⟨rfl, rfl⟩
  · have h3 : (1048576 : Int) < (l : Int) := by omega
    go_enter Try.func5, Try.ntmps5
    go_wp2
    go_ret
    exact ⟨rfl, rfl⟩

theorem walk3_big (a0 : Option Addr) (len0 cap0 : Nat) (a1 : Int) (a2 : Option Addr) (len2 cap2 : Nat) (w : World) (h0 : len0 ≤ maxLen) (h2 : len2 ≤ maxLen) (h : 1048576 < len0 + len2 ∨ 524288 < len0 ∨ 65535 < len2) :
    Calls Try.prog 3 #[.slice a0 len0 cap0, .int .u64 a1, .slice a2 len2 cap2] w fun e w' => e = .returned (.bool true) ∧ Below w.heap.size w w' := by
  by_cases hb : len0 + len2 ≤ 1048576
  · by_cases h3 : 524288 < len0
    · have h3' : (524288 : Int) < (len0 : Int) := by omega
      go_enter Try.func3, Try.ntmps3
      go_wp2_with fail
      refine (bound5_ok _ _ _ _ _ _ _ _ hb).mono ?_
      rintro e w' ⟨rfl, rfl⟩
      go_wp2
      go_ret
      exact ⟨rfl, Below.refl _ _⟩
    · have h3' : ¬ (524288 : Int) < (len0 : Int) := by omega
      have h4' : (65535 : Int) < (len2 : Int) := by omega
      go_enter Try.func3, Try.ntmps3
      go_wp2_with fail
      refine (bound5_ok _ _ _ _ _ _ _ _ hb).mono ?_
      rintro e w' ⟨rfl, rfl⟩
      go_wp2
      go_ret
      exact ⟨rfl, Below.refl _ _⟩
  · go_enter Try.func3, Try.ntmps3
    go_wp2_with fail
    refine (bound5_big _ _ _ _ _ _ _ _ (by omega) h0 h2).mono ?_
    rintro e w' ⟨rfl, rfl⟩
    go_wp2
    go_ret
    exact ⟨rfl, Below.refl _ _⟩

set_option maxHeartbeats 2000000 in
set_option maxRecDepth 100000 in
theorem walk3_ok (a0 : Option Addr) (len0 cap0 : Nat) (z0 : List Int) (s : Nat) (a2 : Option Addr) (len2 cap2 : Nat) (z2 : List Int) (w : World) (w0 : IsRow .u8 w a0 len0 cap0 z0) (hs : s < 18446744073709551616) (w2 : IsRow .u16 w a2 len2 cap2 z2) (h0 : len0 ≤ 524288) (h2 : len2 ≤ 65535) :
    Calls Try.prog 3 #[.slice a0 len0 cap0, .int .u64 (s : Int), .slice a2 len2 cap2] w fun e w' => e = .returned (.bool true) ∧ Below w.heap.size w w' := by
  have l0 := taken_length w0
  have l2 := taken_length w2
  have b0 := taken_lt w0 256 (by decide) (by omega)
  have b2 := getD_lt _ 65536 (by omega) (taken_lt w2 65536 (by decide) (by omega))
  have H6 : Hid (∀ u, Below w.heap.size w u → Calls Try.prog 6 #[.slice a0 len0 cap0] u fun e w' => ∃ v, e = .returned v ∧ Sl .u8 w' v ((z0.take len0).map Int.toNat) ∧ Below u.heap.size u w') := fun u hu => clone6 a0 len0 cap0 z0 u (w0.below hu) (by omega)
  have H7 : Hid (∀ u, Below w.heap.size w u → Calls Try.prog 7 #[.slice a2 len2 cap2] u fun e w' => ∃ v, e = .returned v ∧ Sl .u16 w' v ((z2.take len2).map Int.toNat) ∧ Below u.heap.size u w') := fun u hu => clone7 a2 len2 cap2 z2 u (w2.below hu) (by omega)
  clear w0 w2
  generalize (z0.take len0).map Int.toNat = zb at *
  generalize (z2.take len2).map Int.toNat = zc at *
  subst l0 l2
  have q0 : (zb.length : Int) ≤ 524288 := by omega
  have q2 : (zc.length : Int) ≤ 65535 := by omega
  go_enter Try.func3, Try.ntmps3
  go_wp2_with fail
  refine (bound5_ok _ _ _ _ _ _ _ _ (by omega)).mono ?_
  rintro e w' ⟨rfl, rfl⟩
  go_wp2_with fail
  refine (H6.out _ (Below.refl _ _)).mono ?_
  rintro e u1 ⟨vb, rfl, sb, bel1⟩
  go_wp2_with fail
  refine (H7.out _ bel1).mono ?_
  rintro e u2 ⟨vc, rfl, sc, bel2⟩
  have sb2 := sb.below bel2
  have HB2 : Hid (Below w'.heap.size w' u2) := bel1.trans (bel2.mono bel1.size)
  clear sb bel1 bel2 H6 H7
  have H8 : Hid (Calls Try.prog 8 #[vb, .agg #[.int .u64 s, vc]] u2 fun e w' => ∃ g cap, e = .returned (.slice (some ⟨g, 0, none⟩) (zb.length + 10 + 2 * zc.length) cap) ∧ g < w'.heap.size ∧ Holds8 w' g (enc zb s zc) ∧ Below u2.heap.size u2 w') := place8 vb zb s vc zc u2 hs sb2 sc (by omega) (by omega) b2
  have HL := fun i => enc_lt zb s zc b0 i
  obtain ⟨ab, gb, rfl, pb1, pb2, pb3⟩ := sb2.parts
  obtain ⟨ac, gc, rfl, pc1, pc2, pc3⟩ := sc.parts
  clear sb2 sc b0
  go_wp2_with fail
  refine H8.out.mono ?_
  rintro e u3 ⟨go, cap, rfl, hgo, hout, bel3⟩
  have HB3 : Hid (Below w'.heap.size w' u3) := HB2.out.trans (bel3.mono HB2.out.size)
  have HCB : Hid (∀ i, i < zb.length → u3.cell? ⟨gb, i, none⟩ = some (.int .u8 ((zb.getD i 0 : Nat) : Int))) := fun i hi => (bel3.cell (p := ⟨gb, i, none⟩) (pb2 (by omega))).trans (pb3 i hi)
  have HCC : Hid (∀ i, i < zc.length → u3.cell? ⟨gc, i, none⟩ = some (.int .u16 ((zc.getD i 0 : Nat) : Int))) := fun i hi => (bel3.cell (p := ⟨gc, i, none⟩) (pc2 (by omega))).trans (pc3 i hi)
  have HO : Hid (Holds8 u3 go (enc zb s zc)) := hout
  have HPB : Hid (0 < zb.length → ab = some ⟨gb, 0, none⟩) := pb1
  have HPC : Hid (0 < zc.length → ac = some ⟨gc, 0, none⟩) := pc1
  have HLH : Hid (∀ i, (enc zb s zc).getD i 0 < 256) := HL
  clear hout bel3 pb1 pb2 pb3 pc1 pc2 pc3 HL H8 HB2
  go_wp2
  go_loopw [9] (fun i wr => ∃ k q : Nat, k ≤ zb.length ∧ i = .int .i64 k ∧ wr = u3.drewN q) (fun i _ => zb.length - (intOf i).toNat)
  case atStart => exact ⟨0, 0, Nat.zero_le _, rfl, rfl⟩
  case round =>
    obtain ⟨k, q, hk, rfl, rfl⟩ := hrel
    by_cases hlt : k < zb.length
    · obtain rfl := HPB.out (by omega)
      have hcb := HCB.out k hlt
      have hco := HO.out k (by rw [enc_length]; omega)
      rw [enc_pre zb s zc k hlt] at hco
      generalize zb.getD k 0 = c at hcb hco
      have hi1 : (k : Int) < (zb.length : Int) + 10 + 2 * (zc.length : Int) := by omega
      go_wp2
      go_quiet (fail)
      go_wp2
      go_roundw
      case rel => exact ⟨k + 1, _, by omega, by go_num, rfl⟩
      case measure => simp [intOf]; omega
    · go_wp2
      go_loop [10, 11] (fun v i => ∃ j : Nat, j ≤ 8 ∧ i = .int .i64 j ∧ v = .int .u64 (acc s j)) (fun _ i => 8 - (intOf i).toNat)
      case atStart => exact ⟨0, Nat.zero_le _, rfl, by rw [acc_zero s hs]; rfl⟩
      case round =>
        obtain ⟨j, hj, rfl, rfl⟩ := hrel
        by_cases hj8 : j < 8
        · have hco := HO.out (zb.length + j) (by rw [enc_length]; omega)
          have HA : Hid (acc s j * 256 + (enc zb s zc).getD (zb.length + j) 0 = acc s (j + 1)) := acc_step zb s zc j hj8
          have hle := acc_le s (j + 1)
          have hA2 : acc s j * 256 + (enc zb s zc).getD (zb.length + j) 0 ≤ 18446744073709551615 := by rw [HA.out]; omega
          have hc2 := HLH.out (zb.length + j)
          clear hle
          generalize (enc zb s zc).getD (zb.length + j) 0 = c at hco HA hA2 hc2
          generalize acc s j = A at HA hA2
          have hi1 : (zb.length : Int) + (j : Int) < (zb.length : Int) + 10 + 2 * (zc.length : Int) := by omega
          go_wp2
          go_round
          case rel => exact ⟨j + 1, by omega, by go_num, by rw [← HA.out]; go_num⟩
          case measure => simp [intOf]; omega
        · obtain rfl : j = 8 := by omega
          rw [acc_all]
          obtain ⟨d1, d2⟩ := enc_count zb s zc
          have e1 := HO.out (zb.length + 8) (by rw [enc_length]; omega)
          have e2 := HO.out (zb.length + 9) (by rw [enc_length]; omega)
          rw [d1] at e1
          rw [d2] at e2
          have HM : Hid (zc.length / 256 % 256 * 256 + zc.length % 256 = zc.length) := by show _ = _; omega
          clear d1 d2
          have r1 : zc.length / 256 % 256 < 256 := by omega
          have r2 : zc.length % 256 < 256 := by omega
          generalize zc.length / 256 % 256 = c1 at e1 HM r1
          generalize zc.length % 256 = c2 at e2 HM r2
          have hi1 : (zb.length : Int) + 8 < (zb.length : Int) + 10 + 2 * (zc.length : Int) := by omega
          have hi2 : (zb.length : Int) + 9 < (zb.length : Int) + 10 + 2 * (zc.length : Int) := by omega
          have hM : (((c1 : Int) * 256 + (c2 : Int)) != (zc.length : Int)) = false := by have := HM.out; rw [bne_eq_false_iff_eq]; omega
          go_wp2
          go_quiet (fail)
          go_wp2
          clear e1 e2 HM r1 r2 hi1 hi2 hM
          go_loopw [12] (fun i wr => ∃ k q : Nat, k ≤ zc.length ∧ i = .int .i64 k ∧ wr = u3.drewN q) (fun i _ => zc.length - (intOf i).toNat)
          case atStart => exact ⟨0, _, Nat.zero_le _, rfl, World.drewN_drewN _ _ _⟩
          case round =>
            obtain ⟨k3, q3, hk3, rfl, rfl⟩ := hrel
            by_cases hlt3 : k3 < zc.length
            · obtain rfl := HPC.out (by omega)
              obtain ⟨d1, d2⟩ := enc_coord zb s zc k3 hlt3
              have e1 := HO.out (zb.length + 10 + 2 * k3) (by rw [enc_length]; omega)
              have e2 := HO.out (zb.length + 11 + 2 * k3) (by rw [enc_length]; omega)
              have e3 := HCC.out k3 hlt3
              have r0 := b2 k3
              rw [d1] at e1
              rw [d2] at e2
              clear d1 d2
              generalize zc.getD k3 0 = c at e1 e2 e3 r0
              have HM : Hid (c / 256 % 256 * 256 + c % 256 = c) := by show _ = _; omega
              have r1 : c / 256 % 256 < 256 := by omega
              have r2 : c % 256 < 256 := by omega
              generalize c / 256 % 256 = c1 at e1 HM r1
              generalize c % 256 = c2 at e2 HM r2
              have hi1 : (zb.length : Int) + 10 + 2 * (k3 : Int) < (zb.length : Int) + 10 + 2 * (zc.length : Int) := by omega
              have hi2 : (zb.length : Int) + 11 + 2 * (k3 : Int) < (zb.length : Int) + 10 + 2 * (zc.length : Int) := by omega
              have hM : (((c1 : Int) * 256 + (c2 : Int)) != (c : Int)) = false := by have := HM.out; rw [bne_eq_false_iff_eq]; omega
              go_wp2
              go_quiet (fail)
              go_wp2
              go_roundw
              case rel => exact ⟨k3 + 1, _, by omega, by go_num, rfl⟩
              case measure => simp [intOf]; omega
            · go_wp2
              go_ret
              exact ⟨rfl, below_drewN HB3.out _⟩
end Go.Proofs.Qxb6603590a
