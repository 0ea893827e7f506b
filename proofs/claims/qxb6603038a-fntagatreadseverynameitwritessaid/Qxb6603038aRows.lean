/-
  No cell of these rows narrows 'for every input' (looked for: loops, veiled, ifaces, maps, wideKeys, modest, calm, conditions, laid).
  DERIVED. THE GIVEN ROWS OF THIS SEAT. 1 by the template 'for every input the law returns true; each argument reads behind the call as it read before'; 0 by the template 'total and deterministic' (their statements: Qxb6603038aTotals.lean).
  GIVEN WITH THE SEED: the statements are not yours to turn. If you find one false, say at which input.
  Laid BY PROGRAM, IN A SANDBOX (cutbox-rows.mjs): the forced cells as the released guide's own fill.sh prints them over the translation 08179e1752e17954… (all of the seat's roots in one cut). By AI agents, Wed Nov 11 2026. No macro, syntax, notation, axiom, sorry.
-/
import Derived.Test.Qxb6603038aChecked
import GoSem.Claim
import GoSem.ClaimJoined
import GoSem.ClaimMapViews
import Derived.JoinedTies
import Derived.KernelRfl
namespace Go.Proofs.Qxb6603038a
/- THE CELL 'sum', in the pinned program and in every row, IS THE sha256 OF THE DUMP (.gsa) THAT Qxb6603038aProg.lean LOADS. Nothing in Lean hashes anything: it is a label: what it is worth is what the hold of that sum in a sandbox is worth. -/
noncomputable def Try.pinned : Pinned := { name := "qxb6603038a", sum := "08179e1752e1795473528d6d0ef1bafe34ffef211be514789d520295e761ffa9", checked := Try.checked }
namespace Rows
def none {H : Type} : Left H := { results := [], args := [] }

/-- 'zzlaws_yamljson_b1.FnTagAtReadsEveryNameItWrites': WHATEVER THE INPUT: true; the input reads as it did. -/
def fnTagAtReadsEveryNameItWritesSpec : ChangeSpec := { name := "fnTagAtReadsEveryNameItWrites", fn := fun _ => fun
  | [d1, d2] => { results := [.lit (.bool true)], args := [d1, d2] }
  | _ => none }
def fnTagAtReadsEveryNameItWritesRow : OpenClaim := { program := "qxb6603038a", sum := "08179e1752e1795473528d6d0ef1bafe34ffef211be514789d520295e761ffa9", func := "example.com/marlinspike/marlinspike/zzlaws_yamljson_b1.FnTagAtReadsEveryNameItWrites", spec := "fnTagAtReadsEveryNameItWrites", apart := false }
def FnTagAtReadsEveryNameItWritesSaid : Prop := fnTagAtReadsEveryNameItWritesRow.holds Try.pinned (OpenSpec.ofChange fnTagAtReadsEveryNameItWritesSpec)

/-- ITS FALSE NEIGHBOUR: 'it returns false'. Refute it at one input. -/
def fnTagAtReadsEveryNameItWritesWrong : ChangeSpec := { name := "fnTagAtReadsEveryNameItWrites", fn := fun _ => fun
  | [d1, d2] => { results := [.lit (.bool false)], args := [d1, d2] }
  | _ => none }
def FnTagAtReadsEveryNameItWritesWrongFalsely : Prop := fnTagAtReadsEveryNameItWritesRow.holds Try.pinned (OpenSpec.ofChange fnTagAtReadsEveryNameItWritesWrong)

end Rows
end Go.Proofs.Qxb6603038a
