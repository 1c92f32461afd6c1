/-
  No cell of these rows narrows 'for every input' (looked for: loops, veiled, ifaces, maps, wideKeys, modest, calm, conditions, laid).
  DERIVED. THE GIVEN ROWS OF THIS SEAT. 2 by the template 'for every input the law returns true; each argument reads behind the call as it read before'; 0 by the template 'total and deterministic' (their statements: Qxb6625488aTotals.lean).
  GIVEN WITH THE SEED: the statements are not yours to turn. If you find one false, say at which input.
  Laid BY PROGRAM, IN A SANDBOX (cutbox-rows.mjs): the forced cells as the released guide's own fill.sh prints them over the translation 5eb15d919b5997d5… (all of the seat's roots in one cut). By AI agents, Wed Nov 11 2026. No macro, syntax, notation, axiom, sorry.
-/
import Derived.Test.Qxb6625488aChecked
import GoSem.Claim
import GoSem.ClaimJoined
import GoSem.ClaimMapViews
import Derived.JoinedTies
import Derived.KernelRfl
namespace Go.Proofs.Qxb6625488a
/- THE CELL 'sum', in the pinned program and in every row, IS THE sha256 OF THE DUMP (.gsa) THAT Qxb6625488aProg.lean LOADS. Nothing in Lean hashes anything: it is a label: what it is worth is what the hold of that sum in a sandbox is worth. -/
noncomputable def Try.pinned : Pinned := { name := "qxb6625488a", sum := "5eb15d919b5997d543109c5efde88519a95d23b391e5edea9d2841068487d8bf", checked := Try.checked }
namespace Rows
def none {H : Type} : Left H := { results := [], args := [] }

/-- 'zzlaws_extsort_b1.FnMemorySourceDrainsRecordsInOrder': WHATEVER THE INPUT: true; the input reads as it did. -/
def fnMemorySourceDrainsRecordsInOrderSpec : ChangeSpec := { name := "fnMemorySourceDrainsRecordsInOrder", fn := fun _ => fun
  | [d1, d2, d3] => { results := [.lit (.bool true)], args := [d1, d2, d3] }
  | _ => none }
def fnMemorySourceDrainsRecordsInOrderRow : OpenClaim := { program := "qxb6625488a", sum := "5eb15d919b5997d543109c5efde88519a95d23b391e5edea9d2841068487d8bf", func := "example.com/corridor-rates/corridor-rates/zzlaws_extsort_b1.FnMemorySourceDrainsRecordsInOrder", spec := "fnMemorySourceDrainsRecordsInOrder", apart := false }
def FnMemorySourceDrainsRecordsInOrderSaid : Prop := fnMemorySourceDrainsRecordsInOrderRow.holds Try.pinned (OpenSpec.ofChange fnMemorySourceDrainsRecordsInOrderSpec)

/-- ITS FALSE NEIGHBOUR: 'it returns false'. Refute it at one input. -/
def fnMemorySourceDrainsRecordsInOrderWrong : ChangeSpec := { name := "fnMemorySourceDrainsRecordsInOrder", fn := fun _ => fun
  | [d1, d2, d3] => { results := [.lit (.bool false)], args := [d1, d2, d3] }
  | _ => none }
def FnMemorySourceDrainsRecordsInOrderWrongFalsely : Prop := fnMemorySourceDrainsRecordsInOrderRow.holds Try.pinned (OpenSpec.ofChange fnMemorySourceDrainsRecordsInOrderWrong)

/-- 'zzlaws_extsort_b1.FnMemorySourcesOnOneSorterKeepApart': WHATEVER THE INPUT: true; the input reads as it did. -/
def fnMemorySourcesOnOneSorterKeepApartSpec : ChangeSpec := { name := "fnMemorySourcesOnOneSorterKeepApart", fn := fun _ => fun
  | [d1, d2, d3] => { results := [.lit (.bool true)], args := [d1, d2, d3] }
  | _ => none }
def fnMemorySourcesOnOneSorterKeepApartRow : OpenClaim := { program := "qxb6625488a", sum := "5eb15d919b5997d543109c5efde88519a95d23b391e5edea9d2841068487d8bf", func := "example.com/corridor-rates/corridor-rates/zzlaws_extsort_b1.FnMemorySourcesOnOneSorterKeepApart", spec := "fnMemorySourcesOnOneSorterKeepApart", apart := false }
def FnMemorySourcesOnOneSorterKeepApartSaid : Prop := fnMemorySourcesOnOneSorterKeepApartRow.holds Try.pinned (OpenSpec.ofChange fnMemorySourcesOnOneSorterKeepApartSpec)

/-- ITS FALSE NEIGHBOUR: 'it returns false'. Refute it at one input. -/
def fnMemorySourcesOnOneSorterKeepApartWrong : ChangeSpec := { name := "fnMemorySourcesOnOneSorterKeepApart", fn := fun _ => fun
  | [d1, d2, d3] => { results := [.lit (.bool false)], args := [d1, d2, d3] }
  | _ => none }
def FnMemorySourcesOnOneSorterKeepApartWrongFalsely : Prop := fnMemorySourcesOnOneSorterKeepApartRow.holds Try.pinned (OpenSpec.ofChange fnMemorySourcesOnOneSorterKeepApartWrong)

end Rows
end Go.Proofs.Qxb6625488a
