/-
  Seat b6603590a: AppendPlace's result as numbers; what a slice of the law's own holds.
-/
import Derived.Test.Qxb6603590aAppend
import Derived.Test.Qxb6603590aPlain
namespace Go.Proofs.Qxb6603590a
open Go.RowKit

theorem bc_be (k v : Nat) : bc k v = (be k v).map fun z : Nat => Value.int .u8 (z : Int) := by
  simp [bc, be, Lib.byteCells]

theorem placeCells_enc (zb : List Nat) (s : Nat) (zc : List Nat) : placeCells zb s zc = (enc zb s zc).map fun z : Nat => Value.int .u8 (z : Int) := by
  simp only [placeCells, enc, encC, cells8, cc, List.map_append, List.map_flatMap, bc_be, List.append_assoc]
  congr 3

/-- A slice from the head of a block on that holds the numbers zs. -/
def Holds8 (w : World) (g : Nat) (zs : List Nat) : Prop := ∀ i, i < zs.length → w.cell? ⟨g, i, none⟩ = some (.int .u8 ((zs.getD i 0 : Nat) : Int))

theorem holds_of_owns {w : World} {B : Nat} {v : Value} {zs : List Nat} (h : w.ownsRow B 5 1 v zs.length (zs.map fun z : Nat => Value.int .u8 (z : Int))) (hp : 0 < zs.length) :
    ∃ g cap, v = .slice (some ⟨g, 0, none⟩) zs.length cap ∧ g < w.heap.size ∧ Holds8 w g zs := by
  obtain ⟨_, ⟨_, h0⟩ | ⟨g, cap, cur, rfl, _, hh, hn, _, hcs, hcur⟩⟩ := h
  · omega
  · refine ⟨g, cap, rfl, ?_, fun i hi => ?_⟩
    · rcases Nat.lt_or_ge g w.heap.size with h | h
      · exact h
      · rw [Array.getElem?_eq_none h] at hh; cases hh
    · rw [Nat.mul_one] at hcs hcur
      have hlt : i < cur.size := by omega
      have e : cur.toList[i]? = some (.int .u8 ((zs.getD i 0 : Nat) : Int)) := by
        have e1 := congrArg (fun l => l[i]?) hcur
        simp only [List.getElem?_take, if_pos hi, List.getElem?_map] at e1
        rw [e1, List.getD_eq_getElem?_getD, List.getElem?_eq_getElem hi]
        rfl
      simp only [World.cell?, hh]
      simpa using e

/-- AppendPlace, its result as numbers. -/
theorem place8 (vb : Value) (zb : List Nat) (s : Nat) (vc : Value) (zc : List Nat) (w : World) (hs : s < 18446744073709551616) (hb : Sl .u8 w vb zb) (hc : Sl .u16 w vc zc) (hl : zb.length ≤ 1048576) (hm : zc.length ≤ 65535) (hz : ∀ i, zc.getD i 0 < 65536) :
    Calls Try.prog 8 #[vb, .agg #[.int .u64 s, vc]] w fun e w' => ∃ g cap, e = .returned (.slice (some ⟨g, 0, none⟩) (zb.length + 10 + 2 * zc.length) cap) ∧ g < w'.heap.size ∧ Holds8 w' g (enc zb s zc) ∧ Below w.heap.size w w' := by
  refine (place vb zb s vc zc w hs hb hc hl hm hz).mono ?_
  rintro e w' ⟨v', rfl, ho, hbel⟩
  rw [placeCells_enc, show zb.length + 8 + 2 + 2 * zc.length = (enc zb s zc).length by rw [enc_length]] at ho
  obtain ⟨g, cap, rfl, hg, hh⟩ := holds_of_owns ho (by rw [enc_length]; omega)
  rw [enc_length]
  exact ⟨g, cap, rfl, hg, hh, hbel⟩

theorem IsRow.below {k : IntKind} {w w' : World} {a : Option Addr} {len cap : Nat} {zs : List Int} (h : IsRow k w a len cap zs) (hb : Below w.heap.size w w') : IsRow k w' a len cap zs := by
  rcases h with h | ⟨x, rfl, h1, h2, h3, hc, hw⟩
  · exact .inl h
  · refine .inr ⟨x, rfl, h1, h2, h3, fun i hi => ?_, hw⟩
    have h' := hc i hi
    have hlt : (x.add i).block < w.heap.size := World.block_lt_of_cell? w (x.add i) h'
    exact (hb.cell hlt).trans h'

/-- A slice of the law's own, taken apart without parting the cases: where it has an element it lies at the head of block g. -/
theorem Sl.parts {k : IntKind} {w : World} {v : Value} {zs : List Nat} (h : Sl k w v zs) :
    ∃ a g, v = .slice a zs.length zs.length ∧ (0 < zs.length → a = some ⟨g, 0, none⟩) ∧ (0 < zs.length → g < w.heap.size) ∧ ∀ i, i < zs.length → w.cell? ⟨g, i, none⟩ = some (.int k ((zs.getD i 0 : Nat) : Int)) := by
  rcases h with ⟨rfl, rfl⟩ | ⟨g, rfl, hg, hc⟩
  · exact ⟨none, 0, rfl, fun h => absurd h (by simp), fun h => absurd h (by simp), fun i hi => absurd hi (by simp)⟩
  · exact ⟨_, g, rfl, fun _ => rfl, fun _ => hg, hc⟩

theorem taken_length {k : IntKind} {w : World} {a : Option Addr} {len cap : Nat} {zs : List Int} (h : IsRow k w a len cap zs) : ((zs.take len).map Int.toNat).length = len := by
  rcases h with ⟨_, rfl, _, rfl⟩ | ⟨x, _, h1, _, h3, _, _⟩
  · rfl
  · simp; omega

theorem IsRow.len_le {k : IntKind} {w : World} {a : Option Addr} {len cap : Nat} {zs : List Int} (h : IsRow k w a len cap zs) : len ≤ maxLen := by
  rcases h with ⟨_, rfl, _, rfl⟩ | ⟨x, _, h1, h2, _, _, _⟩
  · exact Nat.zero_le _
  · omega

theorem taken_lt {k : IntKind} {w : World} {a : Option Addr} {len cap : Nat} {zs : List Int} (h : IsRow k w a len cap zs) (m : Nat) (hm : k.max < m) (h0 : 0 < m) : ∀ x ∈ (zs.take len).map Int.toNat, x < m := fun x hx => by
  rcases h with ⟨_, _, _, rfl⟩ | ⟨_, _, _, _, _, _, hw⟩
  · simp at hx
  · simp only [List.mem_map] at hx
    obtain ⟨z, hz, rfl⟩ := hx
    have := hw z (List.mem_of_mem_take hz)
    simp only [Lit.wf, Bool.and_eq_true, decide_eq_true_eq] at this
    omega

theorem getD_lt (zs : List Nat) (m : Nat) (h0 : 0 < m) (h : ∀ x ∈ zs, x < m) (i : Nat) : zs.getD i 0 < m := by
  by_cases hi : i < zs.length
  · rw [List.getD_eq_getElem?_getD, List.getElem?_eq_getElem hi]
    exact h _ (List.getElem_mem hi)
  · rw [List.getD_eq_getElem?_getD, List.getElem?_eq_none (by omega)]
    exact h0

theorem u64_of (a : Int) (h : (Lit.int .u64 a).wf = true) : ∃ s : Nat, a = (s : Int) ∧ s < 18446744073709551616 := by
  simp only [Lit.wf, Bool.and_eq_true, decide_eq_true_eq] at h
  have e1 : IntKind.u64.min = 0 := rfl
  have e2 : IntKind.u64.max = 18446744073709551615 := rfl
  exact ⟨a.toNat, by omega, by omega⟩
end Go.Proofs.Qxb6603590a
