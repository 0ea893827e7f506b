/-
  Seat b6604770aF: ZZparseHex (6) and the law FnParseHexCaseTable (3): the walk, for every F.
-/
import Derived.Test.Qxb6604770aFmtParse
import Derived.Deep.QuietTactic
import Derived.BigQuiet
import Derived.Lib.SliceRun
import Derived.WalkSmall
namespace Go.Proofs.Qxb6604770aFmt
open Go.RowKit Go.Extern.Stop Go.Stop Go.Extern

/-- What ZZparseHex hands back, in the law's own words. -/
def ZZPost (s : ByteArray) (ev : Value) (w : World) (e : Ending) (w' : World) : Prop :=
  Below w.heap.size w w' ∧
  ((∃ i, i < s.size ∧ hv (byteAt s i) < 0) ∧ (∃ p, e = .returned (.tuple #[.slice none 0 0, .iface 39 p])) ∨
   (∀ i, i < s.size → 0 ≤ hv (byteAt s i)) ∧ ∃ b er, e = .returned (.tuple #[.slice (some ⟨b, 0, none⟩) (s.size / 2) (s.size / 2), er]) ∧
     (s.size % 2 = 1 → er = ev) ∧ (s.size % 2 = 0 → er = .nilIface) ∧
     ∀ i, i < s.size / 2 → w'.cell? ⟨b, i, none⟩ = some (.int .u8 (hv (byteAt s (2 * i)) * 16 + hv (byteAt s (2 * i + 1)))))

theorem zz_of (s : ByteArray) (ev : Value) (w : World) (e : Ending) (w' : World) (h : ParsePost s ev w e w') : ZZPost s ev w e w' := by
  obtain ⟨hb, h | ⟨hc, b, rfl, hrow⟩⟩ := h
  · exact ⟨hb, .inl h⟩
  · obtain ⟨h1, h2, h3, h4⟩ := decode_clean s.data.toList (clean_of s hc)
    have hl : s.data.toList.length = s.size := (Lib.size_eq s).symm
    rw [hl] at h1 h2 h3 h4
    refine ⟨hb, .inr ⟨hc, b, _, by rw [h1], fun h => ?_, fun h => ?_, fun i hi => ?_⟩⟩
    · rw [h3 h]; rfl
    · rw [h4 h]; rfl
    · rw [hrow.cell hi]
      unfold Lib.Hx.rowP
      rw [if_pos (by omega), Nat.sub_zero, h2 i hi]
      simp [byteAt]

set_option maxHeartbeats 400000 in
theorem zzparse (F : Interp) (s : ByteArray) (ev : Value) (w : World) (hF : F.answers w.tape) (hE : w.cell? ⟨0, 0, none⟩ = some ev) (h : s.size ≤ 1048576) :
    Calls Tryf.prog 6 #[.string s] w (ZZPost s ev w) := by
  go_enter Tryf.func6, Tryf.ntmps6
  go_wp2_with fail
  refine (parse F s ev w hF hE h).mono ?_
  intro e w' hp
  have hz := zz_of _ _ _ _ _ hp
  clear hp
  obtain ⟨hb, ⟨hx, p, rfl⟩ | ⟨hx, b, er, rfl, h1, h2, h3⟩⟩ := hz
  · have HB : Hid (Below w.heap.size w w') := hb
    have HX : Hid (∃ i, i < s.size ∧ hv (byteAt s i) < 0) := hx
    clear hb hx
    go_wp2
    go_ret2
    exact ⟨HB.out, .inl ⟨HX.out, _, rfl⟩⟩
  · have HB : Hid (Below w.heap.size w w') := hb
    have HX : Hid (∀ i, i < s.size → 0 ≤ hv (byteAt s i)) := hx
    have H1 : Hid (s.size % 2 = 1 → er = ev) := h1
    have H2 : Hid (s.size % 2 = 0 → er = .nilIface) := h2
    have H3 : Hid (∀ i, i < s.size / 2 → w'.cell? ⟨b, i, none⟩ = some (.int .u8 (hv (byteAt s (2 * i)) * 16 + hv (byteAt s (2 * i + 1))))) := h3
    clear hb hx h1 h2 h3
    go_wp2
    go_ret2
    exact ⟨HB.out, .inr ⟨HX.out, b, er, rfl, H1.out, H2.out, H3.out⟩⟩

/-- Are the first k bytes all digits? -/
def cleanB (s : ByteArray) : Nat → Bool
  | 0 => true
  | k + 1 => cleanB s k && decide (0 ≤ hv (byteAt s k))

theorem cleanB_true (s : ByteArray) (h : ∀ i, i < s.size → 0 ≤ hv (byteAt s i)) : ∀ k, k ≤ s.size → cleanB s k = true
  | 0, _ => rfl
  | k + 1, hk => by simp [cleanB, cleanB_true s h k (by omega), h k (by omega)]

theorem cleanB_false (s : ByteArray) (i : Nat) (h : hv (byteAt s i) < 0) : ∀ k, i < k → cleanB s k = false
  | 0, hk => absurd hk (by omega)
  | k + 1, hk => by
    by_cases e : i = k
    · subst e
      have : ¬ 0 ≤ hv (byteAt s i) := by omega
      simp [cleanB, this]
    · simp [cleanB, cleanB_false s i h k (by omega)]

theorem byteAt_eq (s : ByteArray) (k : Nat) (h : k < s.size) : ((s[k]).toNat : Int) = byteAt s k := by
  have h' : k < s.data.size := h
  unfold byteAt
  rw [Array.getElem?_eq_getElem h']
  rfl

theorem index_at (s : ByteArray) (i : Int) (n : Nat) (h : i = (n : Int)) (hn : n < s.size) (w : World) :
    (Instr.index 9 (.string s) (.int .i64 i)).run Tryf.prog w = .ok (.int .u8 (byteAt s n)) w := by
  subst h
  rw [run_index_string w 9 s .i64 n Tryf.underlying9, dif_pos (by omega)]
  simp only [Int.toNat_natCast]
  rw [byteAt_eq s n hn]

set_option maxHeartbeats 1000000 in
theorem walk (F : Interp) (s : ByteArray) (ev : Value) (w : World) (hF : F.answers w.tape) (hE : w.cell? ⟨0, 0, none⟩ = some ev) (hev : ∃ u x, ev = .iface u x) (h : s.size ≤ 1048576) :
    Calls Tryf.prog 3 #[.string s] w fun e w' => e = .returned (.bool true) ∧ Below w.heap.size w w' := by
  have h' : (s.size : Int) ≤ 1048576 := by omega
  have hnil : ∀ (w : World) (a : Option Addr) (n c : Nat), (binOp .eql 23 (.slice a n c) (.slice none 0 0)).run Tryf.prog w = .ok (.bool a.isNone) w := fun w a n c => Lib.run_eql_slice_nil w 23 5 a n c 0 0 Tryf.underlying23
  go_enter Tryf.func3, Tryf.ntmps3
  go_wp2_with fail
  refine (bound_ok s _ h).mono ?_
  rintro e w' ⟨rfl, rfl⟩
  go_wp2_with fail
  refine (zzparse F s ev _ hF hE h).mono ?_
  rintro e w1 ⟨hb, ⟨⟨i, hi, hbad⟩, p, rfl⟩ | ⟨hx, b, er, rfl, h1, h2, h3⟩⟩
  · have HB : Hid (Below w'.heap.size w' w1) := hb
    have HX : Hid (cleanB s s.size = false) := cleanB_false s i hbad _ hi
    clear hb hbad
    go_wp2
    go_loop [5, 6] (fun cl i => ∃ k : Nat, k ≤ s.size ∧ i = .int .i64 k ∧ cl = .bool (cleanB s k)) (fun _ i => s.size - (intOf i).toNat)
    case atStart => exact ⟨0, Nat.zero_le _, rfl, rfl⟩
    case round =>
      obtain ⟨k, hk, rfl, rfl⟩ := hrel
      by_cases hlt : k < s.size
      · have hb := byteAt_eq s k hlt
        have c0 := byteAt_lo s k
        have c1 := byteAt_hi s k
        by_cases hn : hv (byteAt s k) < 0
        · have HC : Hid (cleanB s (k + 1) = false) := cleanB_false s k hn _ (by omega)
          go_wp2_with (go_at_call 7; refine (hexval _ _ (by omega) (by omega)).mono ?_; rintro e w' ⟨rfl, rfl⟩)
          go_round
          case rel => exact ⟨k + 1, by omega, by go_num, by rw [HC.out]⟩
          case measure => simp [intOf]; omega
        · have HC : Hid (cleanB s (k + 1) = cleanB s k) := by
            have : 0 ≤ hv (byteAt s k) := by omega
            show cleanB s (k + 1) = cleanB s k
            simp [cleanB, this]
          go_wp2_with (go_at_call 7; refine (hexval _ _ (by omega) (by omega)).mono ?_; rintro e w' ⟨rfl, rfl⟩)
          go_round
          case rel => exact ⟨k + 1, by omega, by go_num, by rw [HC.out]⟩
          case measure => simp [intOf]; omega
      · have hk' : k = s.size := by omega
        subst hk'
        rw [HX.out]
        go_wp2
        go_ret
        exact ⟨rfl, HB.out⟩
  · have HB : Hid (Below w'.heap.size w' w1) := hb
    have HX : Hid (∀ i, i < s.size → 0 ≤ hv (byteAt s i)) := hx
    have H1 : Hid (s.size % 2 = 1 → er = ev) := h1
    have H2 : Hid (s.size % 2 = 0 → er = .nilIface) := h2
    have H3 : Hid (∀ i, i < s.size / 2 → w1.cell? ⟨b, i, none⟩ = some (.int .u8 (hv (byteAt s (2 * i)) * 16 + hv (byteAt s (2 * i + 1))))) := h3
    clear hb hx h1 h2 h3
    go_wp2
    go_loop [5, 6] (fun cl i => ∃ k : Nat, k ≤ s.size ∧ i = .int .i64 k ∧ cl = .bool true) (fun _ i => s.size - (intOf i).toNat)
    case atStart => exact ⟨0, Nat.zero_le _, rfl, rfl⟩
    case round =>
      obtain ⟨k, hk, rfl, rfl⟩ := hrel
      by_cases hlt : k < s.size
      · have hb := byteAt_eq s k hlt
        have c0 := byteAt_lo s k
        have c1 := byteAt_hi s k
        have hn := HX.out k hlt
        go_wp2_with (go_at_call 7; refine (hexval _ _ (by omega) (by omega)).mono ?_; rintro e w' ⟨rfl, rfl⟩)
        go_round
        case rel => exact ⟨k + 1, by omega, by go_num, rfl⟩
        case measure => simp [intOf]; omega
      · have hk' : k = s.size := by omega
        subst hk'
        clear hlt hk
        go_wp2
        go_loopw [8] (fun i wr => ∃ k : Nat, k ≤ s.size / 2 ∧ i = .int .i64 k ∧ Hid (Below w'.heap.size w' wr) ∧ Hid (∀ i, i < s.size / 2 → wr.cell? ⟨b, i, none⟩ = some (.int .u8 (hv (byteAt s (2 * i)) * 16 + hv (byteAt s (2 * i + 1)))))) (fun i _ => s.size / 2 - (intOf i).toNat)
        case atStart => exact ⟨0, Nat.zero_le _, rfl, HB.out, H3.out⟩
        case round =>
          obtain ⟨k, hk, rfl, HBr, H3r⟩ := hrel
          by_cases hlt : k < s.size / 2
          · have a1 : 2 * (k : Int) < (s.size : Int) := by omega
            have a2 : 2 * (k : Int) + 1 < (s.size : Int) := by omega
            have a3 : (k : Int) < (s.size : Int) / 2 := by omega
            have hi1 := index_at s (2 * (k : Int)) (2 * k) (by omega) (by omega)
            have hi2 := index_at s (2 * (k : Int) + 1) (2 * k + 1) (by omega) (by omega)
            have hcell := H3r.out k hlt
            have l1 := hv_le (byteAt s (2 * k))
            have l2 := hv_le (byteAt s (2 * k + 1))
            have g1 := HX.out (2 * k) (by omega)
            have g2 := HX.out (2 * k + 1) (by omega)
            have c0 := byteAt_lo s (2 * k)
            have c1 := byteAt_hi s (2 * k)
            have c2 := byteAt_lo s (2 * k + 1)
            have c3 := byteAt_hi s (2 * k + 1)
            go_wp2
            go_quiet ((go_at_call 7; exact Calls.quiet_of_same (hexval _ _ (by omega) (by omega))))
            go_wp2
            go_roundw
            case rel => exact ⟨k + 1, by omega, by go_num, below_drewN HBr.out _, H3r.out⟩
            case measure => simp [intOf]; omega
          · have hk' : k = s.size / 2 := by omega
            subst hk'
            clear hlt hk
            rcases Nat.mod_two_eq_zero_or_one s.size with hp | hp
            · obtain rfl := H2.out hp
              have hp' : ((s.size : Int) % 2 == 1) = false := by simp; omega
              clear hp
              go_wp2
              go_ret
              exact ⟨rfl, HBr.out⟩
            · obtain rfl := H1.out hp
              obtain ⟨u, x, rfl⟩ := hev
              have hp' : ((s.size : Int) % 2 == 1) = true := by simp; omega
              clear hp
              go_wp2
              go_ret
              exact ⟨rfl, HBr.out⟩

set_option maxHeartbeats 400000 in
theorem walk_big (s : ByteArray) (w : World) (h : 1048576 < s.size) (hm : s.size ≤ maxLen) :
    Calls Tryf.prog 3 #[.string s] w fun e w' => e = .returned (.bool true) ∧ Below w.heap.size w w' := by
  go_enter Tryf.func3, Tryf.ntmps3
  go_wp2_with fail
  refine (bound_big s _ h hm).mono ?_
  rintro e w' ⟨rfl, rfl⟩
  go_wp2
  go_ret
  exact ⟨rfl, Below.refl _ _⟩
end Go.Proofs.Qxb6604770aFmt
