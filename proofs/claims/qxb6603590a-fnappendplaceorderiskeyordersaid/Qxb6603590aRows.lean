/-
  No cell of these rows narrows 'for every input' (looked for: loops, veiled, ifaces, maps, wideKeys, modest, calm, conditions, laid).
  DERIVED. THE GIVEN ROWS OF THIS SEAT. 2 by the template 'for every input the law returns true; each argument reads behind the call as it read before'; 0 by the template 'total and deterministic' (their statements: Qxb6603590aTotals.lean).
  GIVEN WITH THE SEED: the statements are not yours to turn. If you find one false, say at which input.
  Laid BY PROGRAM, IN A SANDBOX (cutbox-rows.mjs): the forced cells as the released guide's own fill.sh prints them over the translation d5f65742e9fb2942… (all of the seat's roots in one cut). By AI agents, Wed Nov 11 2026. No macro, syntax, notation, axiom, sorry.
-/
import Derived.Test.Qxb6603590aChecked
import GoSem.Claim
import GoSem.ClaimJoined
import GoSem.ClaimMapViews
import Derived.JoinedTies
import Derived.KernelRfl
namespace Go.Proofs.Qxb6603590a
/- THE CELL 'sum', in the pinned program and in every row, IS THE sha256 OF THE DUMP (.gsa) THAT Qxb6603590aProg.lean LOADS. Nothing in Lean hashes anything: it is a label: what it is worth is what the hold of that sum in a sandbox is worth. -/
noncomputable def Try.pinned : Pinned := { name := "qxb6603590a", sum := "d5f65742e9fb29422859c40c4e14e8e643a349a82aa031503130722f8555384f", checked := Try.checked }
namespace Rows
def none {H : Type} : Left H := { results := [], args := [] }

/-- 'zzlaws_internal_wire_b1.FnAppendPlaceBytesExact': WHATEVER THE INPUT: true; the input reads as it did. -/
def fnAppendPlaceBytesExactSpec : ChangeSpec := { name := "fnAppendPlaceBytesExact", fn := fun _ => fun
  | [d1, d2, d3] => { results := [.lit (.bool true)], args := [d1, d2, d3] }
  | _ => none }
def fnAppendPlaceBytesExactRow : OpenClaim := { program := "qxb6603590a", sum := "d5f65742e9fb29422859c40c4e14e8e643a349a82aa031503130722f8555384f", func := "example.com/keyweft/keyweft/zzlaws_internal_wire_b1.FnAppendPlaceBytesExact", spec := "fnAppendPlaceBytesExact", named := ["encoding/binary.BigEndian"], apart := false }
def FnAppendPlaceBytesExactSaid : Prop := fnAppendPlaceBytesExactRow.holds Try.pinned (OpenSpec.ofChange fnAppendPlaceBytesExactSpec)

/-- ITS FALSE NEIGHBOUR: 'it returns false'. Refute it at one input. -/
def fnAppendPlaceBytesExactWrong : ChangeSpec := { name := "fnAppendPlaceBytesExact", fn := fun _ => fun
  | [d1, d2, d3] => { results := [.lit (.bool false)], args := [d1, d2, d3] }
  | _ => none }
def FnAppendPlaceBytesExactWrongFalsely : Prop := fnAppendPlaceBytesExactRow.holds Try.pinned (OpenSpec.ofChange fnAppendPlaceBytesExactWrong)

/-- 'zzlaws_internal_wire_b1.FnAppendPlaceOrderIsKeyOrder': WHATEVER THE INPUT: true; the input reads as it did. -/
def fnAppendPlaceOrderIsKeyOrderSpec : ChangeSpec := { name := "fnAppendPlaceOrderIsKeyOrder", fn := fun _ => fun
  | [d1, d2, d3, d4, d5] => { results := [.lit (.bool true)], args := [d1, d2, d3, d4, d5] }
  | _ => none }
def fnAppendPlaceOrderIsKeyOrderRow : OpenClaim := { program := "qxb6603590a", sum := "d5f65742e9fb29422859c40c4e14e8e643a349a82aa031503130722f8555384f", func := "example.com/keyweft/keyweft/zzlaws_internal_wire_b1.FnAppendPlaceOrderIsKeyOrder", spec := "fnAppendPlaceOrderIsKeyOrder", named := ["encoding/binary.BigEndian"], apart := false }
def FnAppendPlaceOrderIsKeyOrderSaid : Prop := fnAppendPlaceOrderIsKeyOrderRow.holds Try.pinned (OpenSpec.ofChange fnAppendPlaceOrderIsKeyOrderSpec)

/-- ITS FALSE NEIGHBOUR: 'it returns false'. Refute it at one input. -/
def fnAppendPlaceOrderIsKeyOrderWrong : ChangeSpec := { name := "fnAppendPlaceOrderIsKeyOrder", fn := fun _ => fun
  | [d1, d2, d3, d4, d5] => { results := [.lit (.bool false)], args := [d1, d2, d3, d4, d5] }
  | _ => none }
def FnAppendPlaceOrderIsKeyOrderWrongFalsely : Prop := fnAppendPlaceOrderIsKeyOrderRow.holds Try.pinned (OpenSpec.ofChange fnAppendPlaceOrderIsKeyOrderWrong)

end Rows
end Go.Proofs.Qxb6603590a
