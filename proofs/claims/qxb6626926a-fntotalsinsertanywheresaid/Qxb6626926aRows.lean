/-
  No cell of these rows narrows 'for every input' (looked for: loops, veiled, ifaces, maps, wideKeys, modest, calm, conditions, laid).
  DERIVED. THE GIVEN ROWS OF THIS SEAT. 2 by the template 'for every input the law returns true; each argument reads behind the call as it read before'; 0 by the template 'total and deterministic' (their statements: Qxb6626926aTotals.lean).
  GIVEN WITH THE SEED: the statements are not yours to turn. If you find one false, say at which input.
  Laid BY PROGRAM, IN A SANDBOX (cutbox-rows.mjs): the forced cells as the released guide's own fill.sh prints them over the translation f38b3b9146f0b678… (all of the seat's roots in one cut). By AI agents, Wed Nov 11 2026. No macro, syntax, notation, axiom, sorry.
-/
import Derived.Test.Qxb6626926aChecked
import GoSem.Claim
import GoSem.ClaimJoined
import GoSem.ClaimMapViews
import Derived.JoinedTies
import Derived.KernelRfl
namespace Go.Proofs.Qxb6626926a
/- THE CELL 'sum', in the pinned program and in every row, IS THE sha256 OF THE DUMP (.gsa) THAT Qxb6626926aProg.lean LOADS. Nothing in Lean hashes anything: it is a label: what it is worth is what the hold of that sum in a sandbox is worth. -/
noncomputable def Try.pinned : Pinned := { name := "qxb6626926a", sum := "f38b3b9146f0b67843568bba8d10cf3baf49d13156fa79d5b1037745623c3d56", checked := Try.checked }
namespace Rows
def none {H : Type} : Left H := { results := [], args := [] }

/-- 'zzlaws_root_b1.FnTotalsInsertAnywhere': WHATEVER THE INPUT: true; the input reads as it did. -/
def fnTotalsInsertAnywhereSpec : ChangeSpec := { name := "fnTotalsInsertAnywhere", fn := fun _ => fun
  | [d1, d2, d3] => { results := [.lit (.bool true)], args := [d1, d2, d3] }
  | _ => none }
def fnTotalsInsertAnywhereRow : OpenClaim := { program := "qxb6626926a", sum := "f38b3b9146f0b67843568bba8d10cf3baf49d13156fa79d5b1037745623c3d56", func := "example.com/heartwood/heartwood/zzlaws_root_b1.FnTotalsInsertAnywhere", spec := "fnTotalsInsertAnywhere", apart := false }
def FnTotalsInsertAnywhereSaid : Prop := fnTotalsInsertAnywhereRow.holds Try.pinned (OpenSpec.ofChange fnTotalsInsertAnywhereSpec)

/-- ITS FALSE NEIGHBOUR: 'it returns false'. Refute it at one input. -/
def fnTotalsInsertAnywhereWrong : ChangeSpec := { name := "fnTotalsInsertAnywhere", fn := fun _ => fun
  | [d1, d2, d3] => { results := [.lit (.bool false)], args := [d1, d2, d3] }
  | _ => none }
def FnTotalsInsertAnywhereWrongFalsely : Prop := fnTotalsInsertAnywhereRow.holds Try.pinned (OpenSpec.ofChange fnTotalsInsertAnywhereWrong)

/-- 'zzlaws_root_b1.FnTotalsSplitAtAnyCut': WHATEVER THE INPUT: true; the input reads as it did. -/
def fnTotalsSplitAtAnyCutSpec : ChangeSpec := { name := "fnTotalsSplitAtAnyCut", fn := fun _ => fun
  | [d1, d2] => { results := [.lit (.bool true)], args := [d1, d2] }
  | _ => none }
def fnTotalsSplitAtAnyCutRow : OpenClaim := { program := "qxb6626926a", sum := "f38b3b9146f0b67843568bba8d10cf3baf49d13156fa79d5b1037745623c3d56", func := "example.com/heartwood/heartwood/zzlaws_root_b1.FnTotalsSplitAtAnyCut", spec := "fnTotalsSplitAtAnyCut", apart := false }
def FnTotalsSplitAtAnyCutSaid : Prop := fnTotalsSplitAtAnyCutRow.holds Try.pinned (OpenSpec.ofChange fnTotalsSplitAtAnyCutSpec)

/-- ITS FALSE NEIGHBOUR: 'it returns false'. Refute it at one input. -/
def fnTotalsSplitAtAnyCutWrong : ChangeSpec := { name := "fnTotalsSplitAtAnyCut", fn := fun _ => fun
  | [d1, d2] => { results := [.lit (.bool false)], args := [d1, d2] }
  | _ => none }
def FnTotalsSplitAtAnyCutWrongFalsely : Prop := fnTotalsSplitAtAnyCutRow.holds Try.pinned (OpenSpec.ofChange fnTotalsSplitAtAnyCutWrong)

end Rows
end Go.Proofs.Qxb6626926a
