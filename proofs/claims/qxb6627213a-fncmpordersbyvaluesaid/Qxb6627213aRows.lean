/-
  No cell of these rows narrows 'for every input' (looked for: loops, veiled, ifaces, maps, wideKeys, modest, calm, conditions, laid).
  DERIVED. THE GIVEN ROWS OF THIS SEAT. 2 by the template 'for every input the law returns true; each argument reads behind the call as it read before'; 0 by the template 'total and deterministic' (their statements: Qxb6627213aTotals.lean).
  GIVEN WITH THE SEED: the statements are not yours to turn. If you find one false, say at which input.
  Laid BY PROGRAM, IN A SANDBOX (cutbox-rows.mjs): the forced cells as the released guide's own fill.sh prints them over the translation a595c28a5d7816b8… (all of the seat's roots in one cut). By AI agents, Wed Nov 11 2026. No macro, syntax, notation, axiom, sorry.
-/
import Derived.Test.Qxb6627213aChecked
import GoSem.Claim
import GoSem.ClaimJoined
import GoSem.ClaimMapViews
import Derived.JoinedTies
import Derived.KernelRfl
namespace Go.Proofs.Qxb6627213a
/- THE CELL 'sum', in the pinned program and in every row, IS THE sha256 OF THE DUMP (.gsa) THAT Qxb6627213aProg.lean LOADS. Nothing in Lean hashes anything: it is a label: what it is worth is what the hold of that sum in a sandbox is worth. -/
noncomputable def Try.pinned : Pinned := { name := "qxb6627213a", sum := "a595c28a5d7816b8d2c86517dbfb2447b047552fe8e377918610f84d0af97699", checked := Try.checked }
namespace Rows
def none {H : Type} : Left H := { results := [], args := [] }

/-- 'zzlaws_root_b1.FnCmpOrdersByValue': WHATEVER THE INPUT: true; the input reads as it did. -/
def fnCmpOrdersByValueSpec : ChangeSpec := { name := "fnCmpOrdersByValue", fn := fun _ => fun
  | [d1, d2, d3, d4] => { results := [.lit (.bool true)], args := [d1, d2, d3, d4] }
  | _ => none }
def fnCmpOrdersByValueRow : OpenClaim := { program := "qxb6627213a", sum := "a595c28a5d7816b8d2c86517dbfb2447b047552fe8e377918610f84d0af97699", func := "example.com/floorline/floorline/zzlaws_root_b1.FnCmpOrdersByValue", spec := "fnCmpOrdersByValue", inPlace := ["internal/bytealg.abigen_runtime_cmpstring"], apart := false }
def FnCmpOrdersByValueSaid : Prop := fnCmpOrdersByValueRow.holds Try.pinned (OpenSpec.ofChange fnCmpOrdersByValueSpec)

/-- ITS FALSE NEIGHBOUR: 'it returns false'. Refute it at one input. -/
def fnCmpOrdersByValueWrong : ChangeSpec := { name := "fnCmpOrdersByValue", fn := fun _ => fun
  | [d1, d2, d3, d4] => { results := [.lit (.bool false)], args := [d1, d2, d3, d4] }
  | _ => none }
def FnCmpOrdersByValueWrongFalsely : Prop := fnCmpOrdersByValueRow.holds Try.pinned (OpenSpec.ofChange fnCmpOrdersByValueWrong)

/-- 'zzlaws_root_b1.FnCmpCanonicalShiftNegate': WHATEVER THE INPUT: true; the input reads as it did. -/
def fnCmpCanonicalShiftNegateSpec : ChangeSpec := { name := "fnCmpCanonicalShiftNegate", fn := fun _ => fun
  | [d1, d2, d3, d4, d5] => { results := [.lit (.bool true)], args := [d1, d2, d3, d4, d5] }
  | _ => none }
def fnCmpCanonicalShiftNegateRow : OpenClaim := { program := "qxb6627213a", sum := "a595c28a5d7816b8d2c86517dbfb2447b047552fe8e377918610f84d0af97699", func := "example.com/floorline/floorline/zzlaws_root_b1.FnCmpCanonicalShiftNegate", spec := "fnCmpCanonicalShiftNegate", inPlace := ["internal/bytealg.abigen_runtime_cmpstring"], apart := false }
def FnCmpCanonicalShiftNegateSaid : Prop := fnCmpCanonicalShiftNegateRow.holds Try.pinned (OpenSpec.ofChange fnCmpCanonicalShiftNegateSpec)

/-- ITS FALSE NEIGHBOUR: 'it returns false'. Refute it at one input. -/
def fnCmpCanonicalShiftNegateWrong : ChangeSpec := { name := "fnCmpCanonicalShiftNegate", fn := fun _ => fun
  | [d1, d2, d3, d4, d5] => { results := [.lit (.bool false)], args := [d1, d2, d3, d4, d5] }
  | _ => none }
def FnCmpCanonicalShiftNegateWrongFalsely : Prop := fnCmpCanonicalShiftNegateRow.holds Try.pinned (OpenSpec.ofChange fnCmpCanonicalShiftNegateWrong)

end Rows
end Go.Proofs.Qxb6627213a
