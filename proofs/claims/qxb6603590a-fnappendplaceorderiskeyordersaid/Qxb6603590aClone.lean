/-
  Seat b6603590a: what a slice of the law's own holds ('Sl'); cloneBytes (6) and cloneU16 (7) by contracts.
-/
import Derived.Test.Qxb6603590aRows
import Derived.WalkKit
import Derived.WalkSpells
import Derived.Deep.OwnRows
import Derived.Lib.SliceRun
namespace Go.Proofs.Qxb6603590a
open Go.RowKit

/-- A slice that is nil and bears nothing, or one without spare room that holds the numbers zs from the head of a block on. -/
def Sl (k : IntKind) (w : World) (v : Value) (zs : List Nat) : Prop :=
  (v = .slice none 0 0 ∧ zs = []) ∨
  ∃ g, v = .slice (some ⟨g, 0, none⟩) zs.length zs.length ∧ g < w.heap.size ∧ ∀ i, i < zs.length → w.cell? ⟨g, i, none⟩ = some (.int k ((zs.getD i 0 : Nat) : Int))

theorem Sl.below {k : IntKind} {w w' : World} {v : Value} {zs : List Nat} (h : Sl k w v zs) (hb : Below w.heap.size w w') : Sl k w' v zs := by
  rcases h with h | ⟨g, hv, hg, hc⟩
  · exact .inl h
  · exact .inr ⟨g, hv, Nat.lt_of_lt_of_le hg hb.size, fun i hi => (hb.cell (p := ⟨g, i, none⟩) hg).trans (hc i hi)⟩

theorem info5 : (Try.prog.info? 5).map (fun i => (i.zero, i.size, i.bytes)) = some (some (Value.int IntKind.u8 0), 1, 1) := by kernel_rfl
theorem info31 : (Try.prog.info? 31).map (fun i => (i.zero, i.size, i.bytes)) = some (some (Value.int IntKind.u16 0), 1, 2) := by kernel_rfl

theorem nil22 (w : World) (a : Option Addr) (n c : Nat) : (binOp .eql 22 (.slice a n c) (.slice none 0 0)).run Try.prog w = .ok (.bool a.isNone) w := Lib.run_eql_slice_nil w 22 5 a n c 0 0 Try.underlying22
theorem nil24 (w : World) (a : Option Addr) (n c : Nat) : (binOp .eql 24 (.slice a n c) (.slice none 0 0)).run Try.prog w = .ok (.bool a.isNone) w := Lib.run_eql_slice_nil w 24 31 a n c 0 0 Try.underlying24

theorem Sl.of_row {k : IntKind} {w : World} {g e len : Nat} {f : Nat → Value} {zs : List Nat} (hl : zs.length = len) (h : w.rowIs g e len f) (hf : ∀ i, i < len → f i = .int k ((zs.getD i 0 : Nat) : Int)) :
    Sl k w (.slice (some ⟨g, 0, none⟩) len len) zs := by
  refine .inr ⟨g, by rw [hl], h.lt, fun i hi => ?_⟩
  rw [h.cell (by omega), hf i (by omega)]

/-- WHAT THE WALK IS TOLD OF A SLICE OF INTEGERS THAT CAME IN (the given shell's own word). -/
def IsRow (k : IntKind) (w : World) (a : Option Addr) (len cap : Nat) (zs : List Int) : Prop :=
  (a = none ∧ len = 0 ∧ cap = 0 ∧ zs = []) ∨
  ∃ x, a = some x ∧ len ≤ cap ∧ cap ≤ maxLen ∧ zs.length = cap ∧ (∀ i, i < zs.length → w.cell? (x.add i) = some (.int k (zs.getD i 0))) ∧ ∀ n ∈ zs, (Lit.int k n).wf = true

theorem addr_add (b off i : Nat) : (⟨b, off, none⟩ : Addr).add i = ⟨b, off + i, none⟩ := by
  by_cases h : i = 0
  · subst h
    simp [Addr.add]
  · simp [Addr.add, h]

theorem nonneg_of {k : IntKind} {zs : List Int} (hw : ∀ n ∈ zs, (Lit.int k n).wf = true) (hk : k.min = 0) (i : Nat) (hi : i < zs.length) : 0 ≤ zs.getD i 0 := by
  have hm : zs.getD i 0 ∈ zs := by
    rw [List.getD_eq_getElem?_getD, List.getElem?_eq_getElem hi]
    exact List.getElem_mem hi
  have := hw _ hm
  simp only [Lit.wf, Bool.and_eq_true, decide_eq_true_eq] at this
  omega

theorem range_map (zs : List Int) (len : Nat) (h : len ≤ zs.length) : (List.range len).map (fun i => (zs.getD i 0).toNat) = (zs.take len).map Int.toNat := by
  apply List.ext_getElem
  · simp; omega
  · intro i h1 h2
    simp at h1
    simp [List.getElem?_eq_getElem (show i < zs.length by omega)]

theorem clone6_nil (w : World) : Calls Try.prog 6 #[.slice none 0 0] w fun e w' => e = .returned (.slice none 0 0) ∧ w' = w := by
  have hn := nil22
  go_enter Try.func6, Try.ntmps6
  go_wp2
  go_ret
  exact ⟨rfl, rfl⟩

set_option maxHeartbeats 400000 in
theorem clone6_empty (x : Addr) (len cap : Nat) (hl : len ≤ 0) (w : World) : Calls Try.prog 6 #[.slice (some x) len cap] w fun e w' => ∃ v, e = .returned v ∧ Sl .u8 w' v [] ∧ Below w.heap.size w w' := by
  have hn := nil22
  have hmk := run_make_row' (P := Try.prog) 22 5 (.int .u8 0) 1 Try.underlying22 info5 rfl .i64 .i64 len (by omega) (by omega)
  go_enter Try.func6, Try.ntmps6
  go_wp2
  go_loop [4] (fun i => i = .int .i64 0) (fun _ => 0)
  case atStart => rfl
  case round =>
    subst hrel
    go_wp2
    go_ret
    obtain rfl : len = 0 := by omega
    exact ⟨_, rfl, Sl.of_row rfl (World.rowIs_made w (.int .u8 0) 0 5) (fun i hi => absurd hi (by omega)), (Below.refl _ w).alloc (Nat.le_refl _) _⟩

set_option maxHeartbeats 400000 in
theorem clone6_row (b off len cap : Nat) (z : Nat → Nat) (w : World) (hl : len ≤ 1048576) (hb : b < w.heap.size) (hc : ∀ i, i < len → w.cell? ⟨b, off + i, none⟩ = some (.int .u8 (z i : Int))) :
    Calls Try.prog 6 #[.slice (some ⟨b, off, none⟩) len cap] w fun e w' => ∃ v, e = .returned v ∧ Sl .u8 w' v ((List.range len).map z) ∧ Below w.heap.size w w' := by
  have hn := nil22
  have hmk := run_make_row' (P := Try.prog) 22 5 (.int .u8 0) 1 Try.underlying22 info5 rfl .i64 .i64 len (by omega) (by omega)
  have HC : Hid (∀ i, i < len → w.cell? ⟨b, off + i, none⟩ = some (.int .u8 (z i : Int))) := hc
  clear hc
  go_enter Try.func6, Try.ntmps6
  go_wp2
  go_loopw [4] (fun i wr => ∃ k : Nat, k ≤ len ∧ i = .int .i64 k ∧ Hid (wr.rowIs w.heap.size 5 len (fun j => if j < k then .int .u8 (z j : Int) else .int .u8 0)) ∧ Hid (Below w.heap.size w wr)) (fun i _ => len - (intOf i).toNat)
  case atStart => exact ⟨0, Nat.zero_le _, rfl, (World.rowIs_made w (.int .u8 0) len 5).congr (fun j _ => by simp), (Below.refl _ w).alloc (Nat.le_refl _) _⟩
  case round =>
    obtain ⟨k, hk, rfl, hrow, hbel⟩ := hrel
    by_cases hlt : k < len
    · have hcell : wr.cell? ⟨b, off + k, none⟩ = some (.int .u8 (z k : Int)) := (hbel.out.cell (p := ⟨b, off + k, none⟩) hb).trans (HC.out k hlt)
      have hdst : wr.cell? ⟨w.heap.size, k, none⟩ = some (.int .u8 0) := by rw [hrow.out.cell hlt]; simp
      have hfz : wr.frozen? ⟨w.heap.size, k, none⟩ = false := hrow.out.frozen k
      go_wp2
      go_roundw
      case rel =>
        refine ⟨k + 1, by omega, by go_num, (hrow.out.set k _).congr (fun j _ => ?_), hbel.out.setCell (Nat.le_refl _) _⟩
        by_cases e1 : j = k
        · subst e1
          simp
        · rw [if_neg e1]
          by_cases e2 : j < k
          · rw [if_pos e2, if_pos (by omega)]
          · rw [if_neg e2, if_neg (by omega)]
      case measure => simp [intOf]; omega
    · have hk' : k = len := by omega
      subst hk'
      go_wp2
      go_ret
      refine ⟨_, rfl, Sl.of_row (by simp) hrow.out (fun i hi => ?_), hbel.out⟩
      simp [hi]

/-- The clone of a slice that came in: nil stays nil; else a new row that holds the elements. -/
theorem clone6 (a : Option Addr) (len cap : Nat) (zs : List Int) (w : World) (hrow : IsRow .u8 w a len cap zs) (hl : len ≤ 1048576) :
    Calls Try.prog 6 #[.slice a len cap] w fun e w' => ∃ v, e = .returned v ∧ Sl .u8 w' v ((zs.take len).map Int.toNat) ∧ Below w.heap.size w w' := by
  rcases hrow with ⟨rfl, rfl, rfl, rfl⟩ | ⟨x, rfl, hlc, hcm, hz, hc, hw⟩
  · refine (clone6_nil w).mono ?_
    rintro e w' ⟨rfl, rfl⟩
    exact ⟨_, rfl, .inl ⟨rfl, rfl⟩, Below.refl _ _⟩
  · by_cases h0 : len ≤ 0
    · refine (clone6_empty x len cap h0 w).mono ?_
      rintro e w' ⟨v, rfl, hs, hb⟩
      obtain rfl : len = 0 := by omega
      exact ⟨v, rfl, by simpa using hs, hb⟩
    · obtain ⟨b, off, spot⟩ := x
      have hspot : spot = none := by simpa [Addr.add] using World.cell?_spot (hc 0 (by omega))
      subst hspot
      have hcell : ∀ i, i < len → w.cell? ⟨b, off + i, none⟩ = some (.int .u8 ((((zs.getD i 0).toNat : Nat)) : Int)) := fun i hi => by
        have h1 := hc i (by omega)
        have h2 : 0 ≤ zs.getD i 0 := nonneg_of hw (by decide) i (by omega)
        rw [Int.toNat_of_nonneg h2, ← h1, addr_add]
      have hb : b < w.heap.size := World.block_lt_of_cell? w ⟨b, off + 0, none⟩ (hcell 0 (by omega))
      refine (clone6_row b off len cap (fun i => (zs.getD i 0).toNat) w hl hb hcell).mono ?_
      rintro e w' ⟨v, rfl, hs, hbel⟩
      rw [range_map zs len (by omega)] at hs
      exact ⟨v, rfl, hs, hbel⟩

theorem clone7_nil (w : World) : Calls Try.prog 7 #[.slice none 0 0] w fun e w' => e = .returned (.slice none 0 0) ∧ w' = w := by
  have hn := nil24
  go_enter Try.func7, Try.ntmps7
  go_wp2
  go_ret
  exact ⟨rfl, rfl⟩

set_option maxHeartbeats 400000 in
theorem clone7_empty (x : Addr) (len cap : Nat) (hl : len ≤ 0) (w : World) : Calls Try.prog 7 #[.slice (some x) len cap] w fun e w' => ∃ v, e = .returned v ∧ Sl .u16 w' v [] ∧ Below w.heap.size w w' := by
  have hn := nil24
  have hmk := run_make_row' (P := Try.prog) 24 31 (.int .u16 0) 2 Try.underlying24 info31 rfl .i64 .i64 len (by omega) (by omega)
  go_enter Try.func7, Try.ntmps7
  go_wp2
  go_loop [4] (fun i => i = .int .i64 0) (fun _ => 0)
  case atStart => rfl
  case round =>
    subst hrel
    go_wp2
    go_ret
    obtain rfl : len = 0 := by omega
    exact ⟨_, rfl, Sl.of_row rfl (World.rowIs_made w (.int .u16 0) 0 31) (fun i hi => absurd hi (by omega)), (Below.refl _ w).alloc (Nat.le_refl _) _⟩

set_option maxHeartbeats 400000 in
theorem clone7_row (b off len cap : Nat) (z : Nat → Nat) (w : World) (hl : len ≤ 1048576) (hb : b < w.heap.size) (hc : ∀ i, i < len → w.cell? ⟨b, off + i, none⟩ = some (.int .u16 (z i : Int))) :
    Calls Try.prog 7 #[.slice (some ⟨b, off, none⟩) len cap] w fun e w' => ∃ v, e = .returned v ∧ Sl .u16 w' v ((List.range len).map z) ∧ Below w.heap.size w w' := by
  have hn := nil24
  have hmk := run_make_row' (P := Try.prog) 24 31 (.int .u16 0) 2 Try.underlying24 info31 rfl .i64 .i64 len (by omega) (by omega)
  have HC : Hid (∀ i, i < len → w.cell? ⟨b, off + i, none⟩ = some (.int .u16 (z i : Int))) := hc
  clear hc
  go_enter Try.func7, Try.ntmps7
  go_wp2
  go_loopw [4] (fun i wr => ∃ k : Nat, k ≤ len ∧ i = .int .i64 k ∧ Hid (wr.rowIs w.heap.size 31 len (fun j => if j < k then .int .u16 (z j : Int) else .int .u16 0)) ∧ Hid (Below w.heap.size w wr)) (fun i _ => len - (intOf i).toNat)
  case atStart => exact ⟨0, Nat.zero_le _, rfl, (World.rowIs_made w (.int .u16 0) len 31).congr (fun j _ => by simp), (Below.refl _ w).alloc (Nat.le_refl _) _⟩
  case round =>
    obtain ⟨k, hk, rfl, hrow, hbel⟩ := hrel
    by_cases hlt : k < len
    · have hcell : wr.cell? ⟨b, off + k, none⟩ = some (.int .u16 (z k : Int)) := (hbel.out.cell (p := ⟨b, off + k, none⟩) hb).trans (HC.out k hlt)
      have hdst : wr.cell? ⟨w.heap.size, k, none⟩ = some (.int .u16 0) := by rw [hrow.out.cell hlt]; simp
      have hfz : wr.frozen? ⟨w.heap.size, k, none⟩ = false := hrow.out.frozen k
      go_wp2
      go_roundw
      case rel =>
        refine ⟨k + 1, by omega, by go_num, (hrow.out.set k _).congr (fun j _ => ?_), hbel.out.setCell (Nat.le_refl _) _⟩
        by_cases e1 : j = k
        · subst e1
          simp
        · rw [if_neg e1]
          by_cases e2 : j < k
          · rw [if_pos e2, if_pos (by omega)]
          · rw [if_neg e2, if_neg (by omega)]
      case measure => simp [intOf]; omega
    · have hk' : k = len := by omega
      subst hk'
      go_wp2
      go_ret
      refine ⟨_, rfl, Sl.of_row (by simp) hrow.out (fun i hi => ?_), hbel.out⟩
      simp [hi]

/-- The clone of a slice that came in: nil stays nil; else a new row that holds the elements. -/
theorem clone7 (a : Option Addr) (len cap : Nat) (zs : List Int) (w : World) (hrow : IsRow .u16 w a len cap zs) (hl : len ≤ 1048576) :
    Calls Try.prog 7 #[.slice a len cap] w fun e w' => ∃ v, e = .returned v ∧ Sl .u16 w' v ((zs.take len).map Int.toNat) ∧ Below w.heap.size w w' := by
  rcases hrow with ⟨rfl, rfl, rfl, rfl⟩ | ⟨x, rfl, hlc, hcm, hz, hc, hw⟩
  · refine (clone7_nil w).mono ?_
    rintro e w' ⟨rfl, rfl⟩
    exact ⟨_, rfl, .inl ⟨rfl, rfl⟩, Below.refl _ _⟩
  · by_cases h0 : len ≤ 0
    · refine (clone7_empty x len cap h0 w).mono ?_
      rintro e w' ⟨v, rfl, hs, hb⟩
      obtain rfl : len = 0 := by omega
      exact ⟨v, rfl, by simpa using hs, hb⟩
    · obtain ⟨b, off, spot⟩ := x
      have hspot : spot = none := by simpa [Addr.add] using World.cell?_spot (hc 0 (by omega))
      subst hspot
      have hcell : ∀ i, i < len → w.cell? ⟨b, off + i, none⟩ = some (.int .u16 ((((zs.getD i 0).toNat : Nat)) : Int)) := fun i hi => by
        have h1 := hc i (by omega)
        have h2 : 0 ≤ zs.getD i 0 := nonneg_of hw (by decide) i (by omega)
        rw [Int.toNat_of_nonneg h2, ← h1, addr_add]
      have hb : b < w.heap.size := World.block_lt_of_cell? w ⟨b, off + 0, none⟩ (hcell 0 (by omega))
      refine (clone7_row b off len cap (fun i => (zs.getD i 0).toNat) w hl hb hcell).mono ?_
      rintro e w' ⟨v, rfl, hs, hbel⟩
      rw [range_map zs len (by omega)] at hs
      exact ⟨v, rfl, hs, hbel⟩

end Go.Proofs.Qxb6603590a
