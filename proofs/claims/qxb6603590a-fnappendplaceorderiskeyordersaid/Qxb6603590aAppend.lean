/-
  Seat b6603590a: AppendCoords (13) and AppendPlace (8) by contracts.
-/
import Derived.Test.Qxb6603590aClone
import Derived.Test.Qxb6603590aShelf
import Derived.Laws.IdiomStrings
namespace Go.Proofs.Qxb6603590a
open Go.RowKit

/-- A number's k bytes, as cells, the greatest first. -/
def bc (k v : Nat) : List Value := Lib.byteCells (Lib.beBytes k v)
theorem bc_length (k v : Nat) : (bc k v).length = k := by simp [bc, Lib.byteCells, Lib.beBytes_length]

/-- The coordinates' cells. -/
def cc (zc : List Nat) : List Value := zc.flatMap (bc 2)
theorem cc_snoc (zc : List Nat) (k : Nat) (h : k < zc.length) : cc (zc.take (k + 1)) = cc (zc.take k) ++ bc 2 (zc.getD k 0) := by
  unfold cc
  rw [List.take_succ_eq_append_getElem h, List.flatMap_append]
  simp [List.getElem?_eq_getElem h]

theorem app16 (B n v : Nat) (hv : v < 65536) (sv : Value) (xs : List Value) (w : World) (hown : w.ownsRow B 5 1 sv n xs) (hBw : B ≤ w.heap.size) (hlim : n + 2 ≤ 140737488355328) :
    Calls Try.prog 14 #[.agg #[], sv, .int .u16 v] w fun e w' => ∃ v', e = .returned v' ∧ w'.ownsRow B 5 1 v' (n + 2) (xs ++ bc 2 v) ∧ Below B w w' := Try.binary_BE_AppendUint16 B n v hv sv xs w hown hBw hlim

set_option maxHeartbeats 1000000 in
theorem coords_nil (B n : Nat) (sv : Value) (xs : List Value) (w : World) (hown : w.ownsRow B 5 1 sv n xs) (hBw : B ≤ w.heap.size) (hlim : n ≤ 4194304) :
    Calls Try.prog 13 #[sv, .slice none 0 0] w fun e w' => ∃ v', e = .returned v' ∧ w'.ownsRow B 5 1 v' (n + 2) (xs ++ bc 2 0) ∧ Below B w w' := by
  have H1 := app16 B n 0 (by omega) sv xs w hown hBw (by omega)
  clear hown
  go_enter Try.func13, Try.ntmps13
  go_wp2_with fail
  refine H1.mono ?_
  rintro e w1 ⟨v1, rfl, hown1, hb1⟩
  have HO : Hid (w1.ownsRow B 5 1 v1 (n + 2) (xs ++ bc 2 0)) := hown1
  have HB : Hid (Below B w w1) := hb1
  clear hown1 hb1 H1
  go_wp2
  go_loop [0, 15] (fun bv i => bv = v1 ∧ i = .int .i64 0) (fun _ _ => 0)
  case atStart => exact ⟨rfl, rfl⟩
  case round =>
    obtain ⟨rfl, rfl⟩ := hrel
    go_wp2
    go_ret
    exact ⟨_, rfl, HO.out, HB.out⟩

set_option maxHeartbeats 1000000 in
theorem coords_row (B n g m : Nat) (sv : Value) (xs : List Value) (zc : List Nat) (w : World) (hown : w.ownsRow B 5 1 sv n xs) (hBw : B ≤ w.heap.size) (hlim : n ≤ 4194304)
    (hm : m ≤ 65535) (hzl : m ≤ zc.length) (hzl' : zc.length ≤ m) (hg : g < B) (hcell : ∀ i, i < m → w.cell? ⟨g, i, none⟩ = some (.int .u16 ((zc.getD i 0 : Nat) : Int))) (hz : ∀ i, zc.getD i 0 < 65536) :
    Calls Try.prog 13 #[sv, .slice (some ⟨g, 0, none⟩) m m] w fun e w' => ∃ v', e = .returned v' ∧ w'.ownsRow B 5 1 v' (n + 2 + 2 * m) (xs ++ bc 2 m ++ cc zc) ∧ Below B w w' := by
  have H1 := app16 B n m (by omega) sv xs w hown hBw (by omega)
  have HC : Hid (∀ i, i < m → w.cell? ⟨g, i, none⟩ = some (.int .u16 ((zc.getD i 0 : Nat) : Int))) := hcell
  have HZ : Hid (∀ i, zc.getD i 0 < 65536) := hz
  clear hown hcell hz
  go_enter Try.func13, Try.ntmps13
  go_wp2_with fail
  refine H1.mono ?_
  rintro e w1 ⟨v1, rfl, hown1, hb1⟩
  have HO : Hid (w1.ownsRow B 5 1 v1 (n + 2) (xs ++ bc 2 m)) := hown1
  have HB : Hid (Below B w w1) := hb1
  clear hown1 hb1 H1
  go_wp2
  go_loopw [0, 15] (fun bv i wr => ∃ k : Nat, k ≤ m ∧ i = .int .i64 k ∧ Hid (wr.ownsRow B 5 1 bv (n + 2 + 2 * k) (xs ++ bc 2 m ++ cc (zc.take k))) ∧ Hid (Below B w wr)) (fun _ i _ => m - (intOf i).toNat)
  case atStart => exact ⟨0, Nat.zero_le _, rfl, by show World.ownsRow _ _ _ _ _ _ _; simpa [cc] using HO.out, HB.out⟩
  case round =>
    obtain ⟨k, hk, rfl, hor, hbr⟩ := hrel
    by_cases hlt : k < m
    · have hcell : wr.cell? ⟨g, k, none⟩ = some (.int .u16 ((zc.getD k 0 : Nat) : Int)) := (hbr.out.cell (p := ⟨g, k, none⟩) hg).trans (HC.out k hlt)
      have hz := HZ.out k
      have HS : Hid (cc (zc.take (k + 1)) = cc (zc.take k) ++ bc 2 (zc.getD k 0)) := cc_snoc zc k (by omega)
      generalize zc.getD k 0 = c at hcell hz HS
      have H2 := app16 B (n + 2 + 2 * k) c hz u0 _ wr hor.out (by have := hbr.out.size; omega) (by omega)
      go_wp2_with fail
      refine H2.mono ?_
      rintro e w2 ⟨v2, rfl, hown2, hb2⟩
      have HO2 : Hid (w2.ownsRow B 5 1 v2 (n + 2 + 2 * k + 2) (xs ++ bc 2 m ++ cc (zc.take k) ++ bc 2 c)) := hown2
      have HB2 : Hid (Below B w w2) := hbr.out.trans hb2
      clear hown2 hb2 H2
      go_wp2
      go_roundw
      case rel =>
        refine ⟨k + 1, by omega, by go_num, ?_, HB2.out⟩
        show World.ownsRow _ _ _ _ _ _ _
        rw [HS.out, ← List.append_assoc, show n + 2 + 2 * (k + 1) = n + 2 + 2 * k + 2 by omega]
        exact HO2.out
      case measure => simp [intOf]; omega
    · have hk' : k = m := by omega
      subst hk'
      have HT : Hid (zc.take k = zc) := List.take_of_length_le hzl'
      go_wp2
      go_ret
      refine ⟨_, rfl, ?_, hbr.out⟩
      have := hor.out
      rw [HT.out] at this
      exact this

theorem ownsRow_mono {w : World} {B B' e : Nat} {v : Value} {n : Nat} {xs : List Value} (h : w.ownsRow B e 1 v n xs) (hB : B' ≤ B) : w.ownsRow B' e 1 v n xs := by
  obtain ⟨h1, h2 | ⟨g, cap, cur, a, b, c⟩⟩ := h
  · exact ⟨h1, .inl h2⟩
  · exact ⟨h1, .inr ⟨g, cap, cur, a, Nat.le_trans hB b, c⟩⟩

/-- The bytes' cells. -/
def cells8 (zb : List Nat) : List Value := zb.map fun z : Nat => Value.int .u8 (z : Int)

/-- AppendUint64 onto a slice of the law's own. -/
theorem app64 (vb : Value) (zb : List Nat) (s : Nat) (hs : s < 18446744073709551616) (w : World) (hb : Sl .u8 w vb zb) (hl : zb.length ≤ 1048576) :
    Calls Try.prog 12 #[.agg #[], vb, .int .u64 s] w fun e w' => ∃ v', e = .returned v' ∧ w'.ownsRow w.heap.size 5 1 v' (zb.length + 8) (cells8 zb ++ bc 8 s) ∧ Below w.heap.size w w' := by
  rcases hb with ⟨rfl, rfl⟩ | ⟨g, rfl, hg, hc⟩
  · exact Try.binary_BE_AppendUint64 w.heap.size 0 s hs _ [] w ⟨rfl, .inl ⟨rfl, rfl⟩⟩ (Nat.le_refl _) (by omega)
  · refine (Try.binary_BE_AppendUint64_arg g 0 zb.length zb.length s hs (cells8 zb) w (by simp [cells8]) (fun j u hj => ?_) (fun h => absurd h (by omega)) (by omega)).mono ?_
    · simp only [cells8, List.getElem?_map, Option.map_eq_some_iff] at hj
      obtain ⟨z, hz, rfl⟩ := hj
      have hlt : j < zb.length := (List.getElem?_eq_some_iff.1 hz).1
      rw [Nat.zero_add, hc j hlt, List.getD_eq_getElem?_getD, hz]
      rfl
    · rintro e w' (⟨h, _⟩ | ⟨_, v', rfl, hown, hbel⟩)
      · omega
      · exact ⟨v', rfl, ownsRow_mono hown (by omega), hbel⟩

/-- AppendCoords, its slice of coordinates nil or not. -/
theorem coords (B n : Nat) (sv vc : Value) (xs : List Value) (zc : List Nat) (w0 w : World) (hown : w.ownsRow B 5 1 sv n xs) (hlim : n ≤ 4194304) (hm : zc.length ≤ 65535) (hc : Sl .u16 w0 vc zc) (hB : w0.heap.size ≤ B) (hBw : B ≤ w.heap.size) (hbel : Below w0.heap.size w0 w) (hz : ∀ i, zc.getD i 0 < 65536) :
    Calls Try.prog 13 #[sv, vc] w fun e w' => ∃ v', e = .returned v' ∧ w'.ownsRow B 5 1 v' (n + 2 + 2 * zc.length) (xs ++ bc 2 zc.length ++ cc zc) ∧ Below B w w' := by
  rcases hc with ⟨rfl, rfl⟩ | ⟨g, rfl, hg, hc⟩
  · refine (coords_nil B n sv xs w hown hBw hlim).mono ?_
    rintro e w' ⟨v', rfl, ho, hb⟩
    exact ⟨v', rfl, by simpa [cc] using ho, hb⟩
  · exact coords_row B n g zc.length sv xs zc w hown hBw hlim hm (Nat.le_refl _) (Nat.le_refl _) (by omega) (fun i hi => (hbel.cell (p := ⟨g, i, none⟩) hg).trans (hc i hi)) hz

theorem size_alloc (w : World) (o : Obj) : (w.alloc o).heap.size = w.heap.size + 1 := by simp
theorem new_cell (w : World) (c : Array Value) (t : TypeId) (i : Nat) : (w.alloc (.cells c t)).cell? ⟨w.heap.size, i, none⟩ = c[i]? := World.cell?_alloc_mark w c t (0, 0) i

/-- What AppendPlace's result holds. -/
def placeCells (zb : List Nat) (s : Nat) (zc : List Nat) : List Value := cells8 zb ++ bc 8 s ++ bc 2 zc.length ++ cc zc

set_option maxHeartbeats 1000000 in
theorem place (vb : Value) (zb : List Nat) (s : Nat) (vc : Value) (zc : List Nat) (w : World) (hs : s < 18446744073709551616) (hb : Sl .u8 w vb zb) (hc : Sl .u16 w vc zc) (hl : zb.length ≤ 1048576) (hm : zc.length ≤ 65535) (hz : ∀ i, zc.getD i 0 < 65536) :
    Calls Try.prog 8 #[vb, .agg #[.int .u64 s, vc]] w fun e w' => ∃ v', e = .returned v' ∧ w'.ownsRow (w.heap.size + 1) 5 1 v' (zb.length + 8 + 2 + 2 * zc.length) (placeCells zb s zc) ∧ Below w.heap.size w w' := by
  have hc0 := hc
  rcases hc with ⟨rfl, _⟩ | ⟨g, rfl, hg, _⟩
  all_goals
    have HBA : ∀ o, Below w.heap.size w (w.alloc o) := fun o => (Below.refl _ w).alloc (Nat.le_refl _) o
    have H1 : Hid (∀ o, Calls Try.prog 12 #[.agg #[], vb, .int .u64 s] (w.alloc o) fun e w' => ∃ v', e = .returned v' ∧ w'.ownsRow (w.alloc o).heap.size 5 1 v' (zb.length + 8) (cells8 zb ++ bc 8 s) ∧ Below (w.alloc o).heap.size (w.alloc o) w') := fun o => app64 vb zb s hs _ (hb.below (HBA o)) hl
    have HC : Hid (∀ B sv w1, w1.ownsRow B 5 1 sv (zb.length + 8) (cells8 zb ++ bc 8 s) → w.heap.size ≤ B → B ≤ w1.heap.size → Below w.heap.size w w1 → Calls Try.prog 13 #[sv, _] w1 fun e w' => ∃ v', e = .returned v' ∧ w'.ownsRow B 5 1 v' (zb.length + 8 + 2 + 2 * zc.length) (cells8 zb ++ bc 8 s ++ bc 2 zc.length ++ cc zc) ∧ Below B w1 w') :=
      fun B sv w1 a1 a2 a3 a4 => coords B (zb.length + 8) sv _ _ zc w w1 a1 (by omega) hm hc0 a2 a3 a4 hz
    clear hb hc0 hz
    go_enter Try.func8, Try.ntmps8
    go_wp2_with fail
    refine (H1.out _).mono ?_
    rintro e w1 ⟨v1, rfl, hown1, hb1⟩
    rw [size_alloc] at hown1 hb1
    have hx := fun i => hb1.cell (p := ⟨w.heap.size, i, none⟩) (by simp)
    have hx1 := hx 1
    simp only [new_cell] at hx1
    have HB1 : Hid (Below w.heap.size w w1) := (HBA _).trans (hb1.mono (by omega))
    have HS1 : Hid (w.heap.size + 1 ≤ w1.heap.size) := by
      have := hb1.size
      rw [size_alloc] at this
      exact this
    have H2 := HC.out (w.heap.size + 1) v1 w1 hown1 (by omega) HS1.out HB1.out
    clear hx hown1 hb1
    go_wp2_with fail
    refine H2.mono ?_
    rintro e w2 ⟨v2, rfl, hown2, hb2⟩
    have HO2 : Hid (w2.ownsRow (w.heap.size + 1) 5 1 v2 (zb.length + 8 + 2 + 2 * zc.length) (placeCells zb s zc)) := hown2
    have HB2 : Hid (Below w.heap.size w w2) := HB1.out.trans (hb2.mono (by omega))
    clear hown2 hb2 H2
    go_wp2
    go_ret
    exact ⟨_, rfl, HO2.out, HB2.out⟩
end Go.Proofs.Qxb6603590a
