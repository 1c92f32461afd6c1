/-
  No cell of these rows narrows 'for every input' (looked for: loops, veiled, ifaces, maps, wideKeys, modest, calm, conditions, laid).
  DERIVED. THE GIVEN ROWS OF THIS SEAT. 2 by the template 'for every input the law returns true; each argument reads behind the call as it read before'; 0 by the template 'total and deterministic' (their statements: Qxb6626883aTotals.lean).
  GIVEN WITH THE SEED: the statements are not yours to turn. If you find one false, say at which input.
  Laid BY PROGRAM, IN A SANDBOX (cutbox-rows.mjs): the forced cells as the released guide's own fill.sh prints them over the translation 68a3ed9478afdff7… (all of the seat's roots in one cut). By AI agents, Wed Nov 11 2026. No macro, syntax, notation, axiom, sorry.
-/
import Derived.Test.Qxb6626883aChecked
import GoSem.Claim
import GoSem.ClaimJoined
import GoSem.ClaimMapViews
import Derived.JoinedTies
import Derived.KernelRfl
namespace Go.Proofs.Qxb6626883a
/- THE CELL 'sum', in the pinned program and in every row, IS THE sha256 OF THE DUMP (.gsa) THAT Qxb6626883aProg.lean LOADS. Nothing in Lean hashes anything: it is a label: what it is worth is what the hold of that sum in a sandbox is worth. -/
noncomputable def Try.pinned : Pinned := { name := "qxb6626883a", sum := "68a3ed9478afdff70666648acf9ccb645aca94fb0ff52413a79133088b704733", checked := Try.checked }
namespace Rows
def none {H : Type} : Left H := { results := [], args := [] }

/-- 'zzlaws_root_b1.FnDoubledStepsBySaturatedDoubling': WHATEVER THE INPUT: true; the input reads as it did. -/
def fnDoubledStepsBySaturatedDoublingSpec : ChangeSpec := { name := "fnDoubledStepsBySaturatedDoubling", fn := fun _ => fun
  | [d1, d2, d3, d4] => { results := [.lit (.bool true)], args := [d1, d2, d3, d4] }
  | _ => none }
def fnDoubledStepsBySaturatedDoublingRow : OpenClaim := { program := "qxb6626883a", sum := "68a3ed9478afdff70666648acf9ccb645aca94fb0ff52413a79133088b704733", func := "example.com/txn1/txn1/zzlaws_root_b1.FnDoubledStepsBySaturatedDoubling", spec := "fnDoubledStepsBySaturatedDoubling", apart := false }
def FnDoubledStepsBySaturatedDoublingSaid : Prop := fnDoubledStepsBySaturatedDoublingRow.holds Try.pinned (OpenSpec.ofChange fnDoubledStepsBySaturatedDoublingSpec)

/-- ITS FALSE NEIGHBOUR: 'it returns false'. Refute it at one input. -/
def fnDoubledStepsBySaturatedDoublingWrong : ChangeSpec := { name := "fnDoubledStepsBySaturatedDoubling", fn := fun _ => fun
  | [d1, d2, d3, d4] => { results := [.lit (.bool false)], args := [d1, d2, d3, d4] }
  | _ => none }
def FnDoubledStepsBySaturatedDoublingWrongFalsely : Prop := fnDoubledStepsBySaturatedDoublingRow.holds Try.pinned (OpenSpec.ofChange fnDoubledStepsBySaturatedDoublingWrong)

/-- 'zzlaws_root_b1.FnDoubledNextAttemptIsDoubleBase': WHATEVER THE INPUT: true; the input reads as it did. -/
def fnDoubledNextAttemptIsDoubleBaseSpec : ChangeSpec := { name := "fnDoubledNextAttemptIsDoubleBase", fn := fun _ => fun
  | [d1, d2, d3, d4] => { results := [.lit (.bool true)], args := [d1, d2, d3, d4] }
  | _ => none }
def fnDoubledNextAttemptIsDoubleBaseRow : OpenClaim := { program := "qxb6626883a", sum := "68a3ed9478afdff70666648acf9ccb645aca94fb0ff52413a79133088b704733", func := "example.com/txn1/txn1/zzlaws_root_b1.FnDoubledNextAttemptIsDoubleBase", spec := "fnDoubledNextAttemptIsDoubleBase", apart := false }
def FnDoubledNextAttemptIsDoubleBaseSaid : Prop := fnDoubledNextAttemptIsDoubleBaseRow.holds Try.pinned (OpenSpec.ofChange fnDoubledNextAttemptIsDoubleBaseSpec)

/-- ITS FALSE NEIGHBOUR: 'it returns false'. Refute it at one input. -/
def fnDoubledNextAttemptIsDoubleBaseWrong : ChangeSpec := { name := "fnDoubledNextAttemptIsDoubleBase", fn := fun _ => fun
  | [d1, d2, d3, d4] => { results := [.lit (.bool false)], args := [d1, d2, d3, d4] }
  | _ => none }
def FnDoubledNextAttemptIsDoubleBaseWrongFalsely : Prop := fnDoubledNextAttemptIsDoubleBaseRow.holds Try.pinned (OpenSpec.ofChange fnDoubledNextAttemptIsDoubleBaseWrong)

end Rows
end Go.Proofs.Qxb6626883a
