/-
  Seat b6604770aF: parseHex (10) and ZZparseHex (6) by contracts, for every F.
-/
import Derived.Test.Qxb6604770aFmtSmall
import Derived.Test.Qxb6604770aFmtFmt
import Derived.Test.Qxb6604770aFmtShelf
namespace Go.Proofs.Qxb6604770aFmt
open Go.RowKit Go.Extern.Stop Go.Stop Go.Extern Go.Lib
attribute [local go_sem] call13 guardF fmt0 fmt0r op5_113 op5_113w ptr39 elem39 isError39

theorem cellAt (s : ByteArray) (w : World) (cap : Nat) (fr : Nat × Nat) (k : Nat) (h : k < s.size) :
    (w.alloc (.cells (bytesRow s cap) 5 fr)).cell? ⟨w.heap.size, k, none⟩ = some (.int .u8 (byteAt s k)) := by
  have h' : k < s.data.size := h
  rw [World.cell?_alloc_mark, bytesRow_at s cap k h']
  unfold byteAt
  rw [Array.getElem?_eq_getElem h']
  rfl

/-- What parseHex hands back. -/
def ParsePost (s : ByteArray) (ev : Value) (w : World) (e : Ending) (w' : World) : Prop :=
  Below w.heap.size w w' ∧
  ((∃ i, i < s.size ∧ hv (byteAt s i) < 0) ∧ (∃ p, e = .returned (.tuple #[.slice none 0 0, .iface 39 p])) ∨
   (∀ i, i < s.size → 0 ≤ hv (byteAt s i)) ∧ ∃ b, e = .returned (.tuple #[.slice (some ⟨b, 0, none⟩) (Hx.decode s.data.toList).1.length (s.size / 2), Hx.errVal 42 ev (Hx.decode s.data.toList).2]) ∧
     w'.rowIs b 5 (s.size / 2) (Hx.rowP (fun _ => .int .u8 0) 0 (Hx.decode s.data.toList).1))

set_option maxHeartbeats 1000000 in
theorem parse (F : Interp) (s : ByteArray) (ev : Value) (w : World) (hF : F.answers w.tape) (hE : w.cell? ⟨0, 0, none⟩ = some ev) (h : s.size ≤ 1048576) :
    Calls Tryf.prog 10 #[.string s] w (ParsePost s ev w) := by
  have hF' := answers_open hF
  have hgl : 0 < w.heap.size := World.block_lt_of_cell? w ⟨0, 0, none⟩ hE
  have hcv := fun w => run_bytes_of_string (P := Tryf.prog) w 9 23 5 s Tryf.underlying9 Tryf.underlying23 Tryf.underlying5
  go_enter Tryf.func10, Tryf.ntmps10
  go_wp2
  generalize grownCap w s.size 0 5 = cap
  go_loop [9] (fun i => ∃ k : Nat, k ≤ s.size ∧ i = .int .i64 k ∧ Hid (∀ j, j < k → 0 ≤ hv (byteAt s j))) (fun i => s.size - (RowKit.intOf i).toNat)
  case atStart => exact ⟨0, Nat.zero_le _, rfl, fun j hj => absurd hj (by omega)⟩
  case round =>
    obtain ⟨k, hk, rfl, hall⟩ := hrel
    by_cases hlt : k < s.size
    · have hcell := cellAt s w cap ((bytesRow s cap).size, (bytesRow s cap).size + 1) k hlt
      have c0 := byteAt_lo s k
      have c1 := byteAt_hi s k
      have HS : Hid ((∀ j, j < k → 0 ≤ hv (byteAt s j)) → 0 ≤ hv (byteAt s k) → ∀ j, j < k + 1 → 0 ≤ hv (byteAt s j)) := fun a b j hj => by
        by_cases e : j = k
        · rw [e]; exact b
        · exact a j (by omega)
      have HB : Hid (hv (byteAt s k) < 0 → ∃ i, i < s.size ∧ hv (byteAt s i) < 0) := fun a => ⟨k, hlt, a⟩
      generalize byteAt s k = c at hcell c0 c1 HS HB
      by_cases good : 0 ≤ hv c
      · have hsn : Hid (∀ j, j < k + 1 → 0 ≤ hv (byteAt s j)) := HS.out hall.out good
        have hcc := hv_good c good
        clear HS HB good
        rcases hcc with ⟨d1, d2⟩ | ⟨d1, d2⟩
        · go_wp2
          go_round
          case rel => exact ⟨k + 1, by omega, by go_num, hsn.out⟩
          case measure => simp [RowKit.intOf]; omega
        · have d3 : (57 : Int) < c := by omega
          go_wp2
          go_round
          case rel => exact ⟨k + 1, by omega, by go_num, hsn.out⟩
          case measure => simp [RowKit.intOf]; omega
      · have hbad : Hid (∃ i, i < s.size ∧ hv (byteAt s i) < 0) := HB.out (by omega)
        have hd : c < 48 ∨ (57 < c ∧ c < 97) ∨ 102 < c := by
          by_cases h1 : 48 ≤ c ∧ c ≤ 57
          · rw [hv_digit c h1.1 h1.2] at good; omega
          · by_cases h2 : 97 ≤ c ∧ c ≤ 102
            · rw [hv_letter c h2.1 h2.2] at good; omega
            · omega
        clear HS HB good
        rcases hd with d1 | ⟨d1, d2⟩ | d1
        · go_wp2
          go_ret2
          exact ⟨(((Below.refl _ w).alloc (Nat.le_refl _) _).alloc (by simp) _).alloc (by simp; omega) _ |>.drew.drew, .inl ⟨hbad.out, _, rfl⟩⟩
        · go_wp2
          go_ret2
          exact ⟨(((Below.refl _ w).alloc (Nat.le_refl _) _).alloc (by simp) _).alloc (by simp; omega) _ |>.drew.drew, .inl ⟨hbad.out, _, rfl⟩⟩
        · have d2 : ¬ c < 48 := by omega
          have d3 : 57 < c := by omega
          go_wp2
          go_ret2
          exact ⟨(((Below.refl _ w).alloc (Nat.le_refl _) _).alloc (by simp) _).alloc (by simp; omega) _ |>.drew.drew, .inl ⟨hbad.out, _, rfl⟩⟩
    · have hk' : k = s.size := by omega
      subst hk'
      have hE1 : ∀ o, ((w.alloc o).drew).cell? ⟨0, 0, none⟩ = some ev := fun o => (((Below.refl _ w).alloc (Nat.le_refl _) o).drew.cell (p := ⟨0, 0, none⟩) hgl).trans hE
      go_wp2_with fail
      refine (Tryf.hex_DecodeString s _ ev (hE1 _) (by omega)).mono ?_
      rintro e w2 ⟨rfl, hrow, hbel⟩
      have HR : Hid (w2.rowIs (w.heap.size + 1) 5 (s.size / 2) (Hx.rowP (fun _ => .int .u8 0) 0 (Hx.decode s.data.toList).1)) := by
        show w2.rowIs _ _ _ _
        simpa using hrow
      have HL : Hid (Below w.heap.size w w2) := ((Below.refl _ w).alloc (Nat.le_refl _) _).drew.trans (hbel.mono (by simp))
      clear hrow hbel
      go_wp2
      go_ret2
      exact ⟨HL.out, .inr ⟨hall.out, _, rfl, HR.out⟩⟩
end Go.Proofs.Qxb6604770aFmt
