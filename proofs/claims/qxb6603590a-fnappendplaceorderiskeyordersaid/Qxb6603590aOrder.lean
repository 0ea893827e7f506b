/-
  Seat b6603590a: the walk of FnAppendPlaceOrderIsKeyOrder (4), with its bound (9).
-/
import Derived.Test.Qxb6603590aCompare
namespace Go.Proofs.Qxb6603590a
open Go.RowKit

/-- A slice of the law's own is a row that a clone can read. -/
theorem Sl.isRow {w : World} {v : Value} {zs : List Nat} (h : Sl .u8 w v zs) (hb : ∀ x ∈ zs, x < 256) (hl : zs.length ≤ 1048576) :
    ∃ a, v = .slice a zs.length zs.length ∧ IsRow .u8 w a zs.length zs.length (zs.map fun z : Nat => (z : Int)) := by
  rcases h with ⟨rfl, rfl⟩ | ⟨g, rfl, hg, hc⟩
  · exact ⟨none, rfl, .inl ⟨rfl, rfl, rfl, rfl⟩⟩
  · refine ⟨_, rfl, .inr ⟨_, rfl, Nat.le_refl _, by unfold maxLen; omega, by simp, fun i hi => ?_, fun n hn => ?_⟩⟩
    · have hi' : i < zs.length := by simpa using hi
      rw [addr_add, Nat.zero_add, hc i hi']
      simp [List.getElem?_eq_getElem hi']
    · simp only [List.mem_map] at hn
      obtain ⟨z, hz, rfl⟩ := hn
      have := hb z hz
      have e1 : IntKind.u8.min = 0 := rfl
      have e2 : IntKind.u8.max = 255 := rfl
      simp only [Lit.wf, Bool.and_eq_true, decide_eq_true_eq, e1, e2]
      omega

theorem back_map (zs : List Nat) : ((zs.map fun z : Nat => (z : Int)).take zs.length).map Int.toNat = zs := by
  rw [List.take_of_length_le (by simp), List.map_map]
  conv => rhs; rw [← List.map_id zs]
  apply List.map_congr_left
  intro x _
  simp

/-- cloneBytes of a slice of the law's own. -/
theorem clone6_own (v : Value) (zs : List Nat) (w : World) (h : Sl .u8 w v zs) (hb : ∀ x ∈ zs, x < 256) (hl : zs.length ≤ 1048576) :
    Calls Try.prog 6 #[v] w fun e w' => ∃ v', e = .returned v' ∧ Sl .u8 w' v' zs ∧ Below w.heap.size w w' := by
  obtain ⟨a, rfl, hr⟩ := h.isRow hb hl
  have := clone6 a zs.length zs.length _ w hr hl
  rwa [back_map] at this

theorem bound9_ok (a0 a2 a4 : Option Addr) (l0 c0 l2 c2 l4 c4 : Nat) (s1 s3 : Int) (w : World) (h : l0 + l2 + l4 ≤ 1048576) :
    Calls Try.prog 9 #[.slice a0 l0 c0, .int .u64 s1, .slice a2 l2 c2, .int .u64 s3, .slice a4 l4 c4] w fun e w' => e = .returned (.bool true) ∧ w' = w := by
  have h1 : (l0 : Int) ≤ 1048576 := by omega
  have h2 : (l2 : Int) ≤ 1048576 := by omega
  have h3 : (l0 : Int) + (l2 : Int) ≤ 1048576 := by omega
  have h4 : (l4 : Int) ≤ 1048576 := by omega
  have h5 : (l0 : Int) + (l2 : Int) + (l4 : Int) ≤ 1048576 := by omega
  go_enter Try.func9, Try.ntmps9
  go_wp2
  go_ret
  exact ⟨rfl, rfl⟩

theorem bound9_big (a0 a2 a4 : Option Addr) (l0 c0 l2 c2 l4 c4 : Nat) (s1 s3 : Int) (w : World) (h : 1048576 < l0 + l2 + l4) (m0 : l0 ≤ maxLen) (m2 : l2 ≤ maxLen) (m4 : l4 ≤ maxLen) :
    Calls Try.prog 9 #[.slice a0 l0 c0, .int .u64 s1, .slice a2 l2 c2, .int .u64 s3, .slice a4 l4 c4] w fun e w' => e = .returned (.bool false) ∧ w' = w := by
  unfold maxLen at m0 m2 m4
  by_cases h1 : (l0 : Int) ≤ 1048576
  · by_cases h2 : (l2 : Int) ≤ 1048576
    · by_cases h3 : (l0 : Int) + (l2 : Int) ≤ 1048576
      · by_cases h4 : (l4 : Int) ≤ 1048576
        · have h5 : (1048576 : Int) < (l0 : Int) + (l2 : Int) + (l4 : Int) := by omega
          go_enter Try.func9, Try.ntmps9
          go_wp2
          go_ret
          exact ⟨rfl, rfl⟩
        · have h5 : (1048576 : Int) < (l4 : Int) := by omega
          go_enter Try.func9, Try.ntmps9
          go_wp2
          go_ret
          exact ⟨rfl, rfl⟩
      · have h5 : (1048576 : Int) < (l0 : Int) + (l2 : Int) := by omega
        go_enter Try.func9, Try.ntmps9
        go_wp2
        go_ret
        exact ⟨rfl, rfl⟩
    · have h5 : (1048576 : Int) < (l2 : Int) := by omega
      go_enter Try.func9, Try.ntmps9
      go_wp2
      go_ret
      exact ⟨rfl, rfl⟩
  · have h5 : (1048576 : Int) < (l0 : Int) := by omega
    go_enter Try.func9, Try.ntmps9
    go_wp2
    go_ret
    exact ⟨rfl, rfl⟩

theorem walk4_big (a0 a2 a4 : Option Addr) (l0 c0 l2 c2 l4 c4 : Nat) (s1 s3 : Int) (w : World) (m0 : l0 ≤ maxLen) (m2 : l2 ≤ maxLen) (m4 : l4 ≤ maxLen) (h : 1048576 < l0 + l2 + l4 ∨ 262144 < l0 ∨ 65535 < l2 ∨ 65535 < l4) :
    Calls Try.prog 4 #[.slice a0 l0 c0, .int .u64 s1, .slice a2 l2 c2, .int .u64 s3, .slice a4 l4 c4] w fun e w' => e = .returned (.bool true) ∧ Below w.heap.size w w' := by
  by_cases hb : l0 + l2 + l4 ≤ 1048576
  · by_cases h3 : (262144 : Int) < (l0 : Int)
    · go_enter Try.func4, Try.ntmps4
      go_wp2_with fail
      refine (bound9_ok _ _ _ _ _ _ _ _ _ _ _ _ hb).mono ?_
      rintro e w' ⟨rfl, rfl⟩
      go_wp2
      go_ret
      exact ⟨rfl, Below.refl _ _⟩
    · by_cases h4 : (65535 : Int) < (l2 : Int)
      · go_enter Try.func4, Try.ntmps4
        go_wp2_with fail
        refine (bound9_ok _ _ _ _ _ _ _ _ _ _ _ _ hb).mono ?_
        rintro e w' ⟨rfl, rfl⟩
        go_wp2
        go_ret
        exact ⟨rfl, Below.refl _ _⟩
      · have h5 : (65535 : Int) < (l4 : Int) := by omega
        go_enter Try.func4, Try.ntmps4
        go_wp2_with fail
        refine (bound9_ok _ _ _ _ _ _ _ _ _ _ _ _ hb).mono ?_
        rintro e w' ⟨rfl, rfl⟩
        go_wp2
        go_ret
        exact ⟨rfl, Below.refl _ _⟩
  · go_enter Try.func4, Try.ntmps4
    go_wp2_with fail
    refine (bound9_big _ _ _ _ _ _ _ _ _ _ _ _ (by omega) m0 m2 m4).mono ?_
    rintro e w' ⟨rfl, rfl⟩
    go_wp2
    go_ret
    exact ⟨rfl, Below.refl _ _⟩

set_option maxHeartbeats 2000000 in
set_option maxRecDepth 100000 in
theorem walk4_ok (a0 : Option Addr) (len0 cap0 : Nat) (z0 : List Int) (s1 : Nat) (a2 : Option Addr) (len2 cap2 : Nat) (z2 : List Int) (s3 : Nat) (a4 : Option Addr) (len4 cap4 : Nat) (z4 : List Int) (w : World)
    (w0 : IsRow .u8 w a0 len0 cap0 z0) (hs1 : s1 < 18446744073709551616) (w2 : IsRow .u16 w a2 len2 cap2 z2) (hs3 : s3 < 18446744073709551616) (w4 : IsRow .u16 w a4 len4 cap4 z4) (h0 : len0 ≤ 262144) (h2 : len2 ≤ 65535) (h4 : len4 ≤ 65535) :
    Calls Try.prog 4 #[.slice a0 len0 cap0, .int .u64 (s1 : Int), .slice a2 len2 cap2, .int .u64 (s3 : Int), .slice a4 len4 cap4] w fun e w' => e = .returned (.bool true) ∧ Below w.heap.size w w' := by
  have l0 := taken_length w0
  have l2 := taken_length w2
  have l4 := taken_length w4
  have b0 := taken_lt w0 256 (by decide) (by omega)
  have b2 := taken_lt w2 65536 (by decide) (by omega)
  have b4 := taken_lt w4 65536 (by decide) (by omega)
  have H6 : Hid (∀ u, Below w.heap.size w u → Calls Try.prog 6 #[.slice a0 len0 cap0] u fun e w' => ∃ v, e = .returned v ∧ Sl .u8 w' v ((z0.take len0).map Int.toNat) ∧ Below u.heap.size u w') := fun u hu => clone6 a0 len0 cap0 z0 u (w0.below hu) (by omega)
  have H7 : Hid (∀ u, Below w.heap.size w u → Calls Try.prog 7 #[.slice a2 len2 cap2] u fun e w' => ∃ v, e = .returned v ∧ Sl .u16 w' v ((z2.take len2).map Int.toNat) ∧ Below u.heap.size u w') := fun u hu => clone7 a2 len2 cap2 z2 u (w2.below hu) (by omega)
  have H7' : Hid (∀ u, Below w.heap.size w u → Calls Try.prog 7 #[.slice a4 len4 cap4] u fun e w' => ∃ v, e = .returned v ∧ Sl .u16 w' v ((z4.take len4).map Int.toNat) ∧ Below u.heap.size u w') := fun u hu => clone7 a4 len4 cap4 z4 u (w4.below hu) (by omega)
  clear w0 w2 w4
  generalize (z0.take len0).map Int.toNat = zb at *
  generalize (z2.take len2).map Int.toNat = zp at *
  generalize (z4.take len4).map Int.toNat = zq at *
  subst l0 l2 l4
  have q0 : (zb.length : Int) ≤ 262144 := by omega
  have q2 : (zp.length : Int) ≤ 65535 := by omega
  have q4 : (zq.length : Int) ≤ 65535 := by omega
  have HCMP : Hid (cmpL (enc zb s1 zp) (enc zb s3 zq) = cmpK s1 zp s3 zq) := enc_cmp zb s1 s3 zp zq hs1 hs3 h2 h4 b2 b4
  have HB0 : Hid (∀ x ∈ zb, x < 256) := b0
  have HBP : Hid (∀ i, zp.getD i 0 < 65536) := getD_lt _ 65536 (by omega) b2
  have HBQ : Hid (∀ i, zq.getD i 0 < 65536) := getD_lt _ 65536 (by omega) b4
  clear b0 b2 b4
  go_enter Try.func4, Try.ntmps4
  go_wp2_with fail
  refine (bound9_ok _ _ _ _ _ _ _ _ _ _ _ _ (by omega)).mono ?_
  rintro e w' ⟨rfl, rfl⟩
  go_wp2_with fail
  refine (H6.out _ (Below.refl _ _)).mono ?_
  rintro e u1 ⟨vb, rfl, sb, bel1⟩
  go_wp2_with fail
  refine (H7.out _ bel1).mono ?_
  rintro e u2 ⟨vp, rfl, sp, bel2⟩
  have bel12 := bel1.trans (bel2.mono bel1.size)
  go_wp2_with fail
  refine (H7'.out _ bel12).mono ?_
  rintro e u3 ⟨vq, rfl, sq, bel3⟩
  have bel13 := bel12.trans (bel3.mono bel12.size)
  have sb3 := (sb.below bel2).below bel3
  have sp3 := sp.below bel3
  clear sb sp bel1 bel2 bel3 bel12 H6 H7 H7'
  go_wp2_with fail
  refine (clone6_own vb zb u3 sb3 HB0.out (by omega)).mono ?_
  rintro e u4 ⟨vbp, rfl, sbp, bel4⟩
  go_wp2_with fail
  refine (clone6_own vb zb u4 (sb3.below bel4) HB0.out (by omega)).mono ?_
  rintro e u5 ⟨vbq, rfl, sbq, bel5⟩
  have bel45 := bel4.trans (bel5.mono bel4.size)
  have sbp5 := sbp.below bel5
  have sp5 := sp3.below bel45
  have sq5 := sq.below bel45
  have bel15 := bel13.trans (bel45.mono bel13.size)
  clear sb3 sp3 sq sbp bel4 bel5 bel45 bel13
  have H8P : Hid (Calls Try.prog 8 #[vbp, .agg #[.int .u64 s1, vp]] u5 fun e w' => ∃ g cap, e = .returned (.slice (some ⟨g, 0, none⟩) (zb.length + 10 + 2 * zp.length) cap) ∧ g < w'.heap.size ∧ Holds8 w' g (enc zb s1 zp) ∧ Below u5.heap.size u5 w') := place8 vbp zb s1 vp zp u5 hs1 sbp5 sp5 (by omega) (by omega) HBP.out
  have H8Q : Hid (∀ u, Below u5.heap.size u5 u → Calls Try.prog 8 #[vbq, .agg #[.int .u64 s3, vq]] u fun e w' => ∃ g cap, e = .returned (.slice (some ⟨g, 0, none⟩) (zb.length + 10 + 2 * zq.length) cap) ∧ g < w'.heap.size ∧ Holds8 w' g (enc zb s3 zq) ∧ Below u.heap.size u w') := fun u hu => place8 vbq zb s3 vq zq u hs3 (sbq.below hu) (sq5.below hu) (by omega) (by omega) HBQ.out
  obtain ⟨ap, gp, rfl, pp1, pp2, pp3⟩ := sp5.parts
  obtain ⟨aq, gq, rfl, pq1, pq2, pq3⟩ := sq5.parts
  clear sbp5 sp5 sq5 sbq
  go_wp2_with fail
  refine H8P.out.mono ?_
  rintro e u6 ⟨gx, cx, rfl, hgx, hX, bel6⟩
  go_wp2_with fail
  refine (H8Q.out u6 bel6).mono ?_
  rintro e u7 ⟨gy, cy, rfl, hgy, hY, bel7⟩
  have bel67 := bel6.trans (bel7.mono bel6.size)
  have hX7 : Holds8 u7 gx (enc zb s1 zp) := fun i hi => (bel7.cell (p := ⟨gx, i, none⟩) hgx).trans (hX i hi)
  have HP7 : Hid (Holds16 u7 ap gp zp) := ⟨pp1, fun i hi => (bel67.cell (p := ⟨gp, i, none⟩) (pp2 (by omega))).trans (pp3 i hi)⟩
  have HQ7 : Hid (Holds16 u7 aq gq zq) := ⟨pq1, fun i hi => (bel67.cell (p := ⟨gq, i, none⟩) (pq2 (by omega))).trans (pq3 i hi)⟩
  have HB7 : Hid (Below w'.heap.size w' u7) := bel15.trans (bel67.mono bel15.size)
  have HCB : Hid (Calls Try.prog 10 #[.slice (some ⟨gx, 0, none⟩) (zb.length + 10 + 2 * zp.length) cx, .slice (some ⟨gy, 0, none⟩) (zb.length + 10 + 2 * zq.length) cy] u7 fun e w' => e = .returned (.int .i64 (cmpL (enc zb s1 zp) (enc zb s3 zq))) ∧ ∃ q, w' = u7.drewN q) := by
    have := cmpBytes (enc zb s1 zp) (enc zb s3 zq) gx cx gy cy u7 hX7 hY (by rw [enc_length]; omega) (by rw [enc_length]; omega)
    rw [enc_length, enc_length] at this
    exact this
  have HCK : Hid (∀ q, Calls Try.prog 11 #[.int .u64 (s1 : Int), .slice ap zp.length zp.length, .int .u64 (s3 : Int), .slice aq zq.length zq.length] (u7.drewN q) fun e w' => e = .returned (.int .i64 (cmpK s1 zp s3 zq)) ∧ ∃ q', w' = (u7.drewN q).drewN q') :=
    fun q => cmpKeys s1 s3 zp zq ap aq gp gq (u7.drewN q) HP7.out HQ7.out (by omega) (by omega)
  clear hX7 hX hY bel6 bel7 bel67 bel15 pp1 pp2 pp3 pq1 pq2 pq3 H8P H8Q
  go_wp2_with fail
  refine HCB.out.mono ?_
  rintro e u8 ⟨rfl, q8, rfl⟩
  go_wp2_with fail
  refine (HCK.out _).mono ?_
  rintro e u9 ⟨rfl, q9, rfl⟩
  rw [HCMP.out]
  go_wp2
  go_ret
  exact ⟨rfl, below_drewN HB7.out _⟩
end Go.Proofs.Qxb6603590a
