/-
  No cell of these rows narrows 'for every input' (looked for: loops, veiled, ifaces, maps, wideKeys, modest, calm, conditions, laid).
  DERIVED. THE GIVEN ROWS OF THIS SEAT. 2 by the template 'for every input the law returns true; each argument reads behind the call as it read before'; 0 by the template 'total and deterministic' (their statements: Qxb6630804aTotals.lean).
  GIVEN WITH THE SEED: the statements are not yours to turn. If you find one false, say at which input.
  Laid BY PROGRAM, IN A SANDBOX (cutbox-rows.mjs): the forced cells as the released guide's own fill.sh prints them over the translation 2f1d9b33ac106d28… (all of the seat's roots in one cut). By AI agents, Wed Nov 11 2026. No macro, syntax, notation, axiom, sorry.
-/
import Derived.Test.Qxb6630804aChecked
import GoSem.Claim
import GoSem.ClaimJoined
import GoSem.ClaimMapViews
import Derived.JoinedTies
import Derived.KernelRfl
namespace Go.Proofs.Qxb6630804a
/- THE CELL 'sum', in the pinned program and in every row, IS THE sha256 OF THE DUMP (.gsa) THAT Qxb6630804aProg.lean LOADS. Nothing in Lean hashes anything: it is a label: what it is worth is what the hold of that sum in a sandbox is worth. -/
noncomputable def Try.pinned : Pinned := { name := "qxb6630804a", sum := "2f1d9b33ac106d285a3a322223dd5f84a71ed1b91db1487736d90064657dcc36", checked := Try.checked }
namespace Rows
def none {H : Type} : Left H := { results := [], args := [] }

/-- 'zzlaws_root_b1.FnGapIsLeastDistanceBetweenOccurrenceStarts': WHATEVER THE INPUT: true; the input reads as it did. -/
def fnGapIsLeastDistanceBetweenOccurrenceStartsSpec : ChangeSpec := { name := "fnGapIsLeastDistanceBetweenOccurrenceStarts", fn := fun _ => fun
  | [d1, d2, d3, d4, d5, d6, d7] => { results := [.lit (.bool true)], args := [d1, d2, d3, d4, d5, d6, d7] }
  | _ => none }
def fnGapIsLeastDistanceBetweenOccurrenceStartsRow : OpenClaim := { program := "qxb6630804a", sum := "2f1d9b33ac106d285a3a322223dd5f84a71ed1b91db1487736d90064657dcc36", func := "example.com/gateward/gateward/zzlaws_root_b1.FnGapIsLeastDistanceBetweenOccurrenceStarts", spec := "fnGapIsLeastDistanceBetweenOccurrenceStarts", apart := false }
def FnGapIsLeastDistanceBetweenOccurrenceStartsSaid : Prop := fnGapIsLeastDistanceBetweenOccurrenceStartsRow.holds Try.pinned (OpenSpec.ofChange fnGapIsLeastDistanceBetweenOccurrenceStartsSpec)

/-- ITS FALSE NEIGHBOUR: 'it returns false'. Refute it at one input. -/
def fnGapIsLeastDistanceBetweenOccurrenceStartsWrong : ChangeSpec := { name := "fnGapIsLeastDistanceBetweenOccurrenceStarts", fn := fun _ => fun
  | [d1, d2, d3, d4, d5, d6, d7] => { results := [.lit (.bool false)], args := [d1, d2, d3, d4, d5, d6, d7] }
  | _ => none }
def FnGapIsLeastDistanceBetweenOccurrenceStartsWrongFalsely : Prop := fnGapIsLeastDistanceBetweenOccurrenceStartsRow.holds Try.pinned (OpenSpec.ofChange fnGapIsLeastDistanceBetweenOccurrenceStartsWrong)

/-- 'zzlaws_root_b1.FnGapKeptByRotationAndBoundedByEvenSpacing': WHATEVER THE INPUT: true; the input reads as it did. -/
def fnGapKeptByRotationAndBoundedByEvenSpacingSpec : ChangeSpec := { name := "fnGapKeptByRotationAndBoundedByEvenSpacing", fn := fun _ => fun
  | [d1, d2, d3, d4, d5, d6, d7] => { results := [.lit (.bool true)], args := [d1, d2, d3, d4, d5, d6, d7] }
  | _ => none }
def fnGapKeptByRotationAndBoundedByEvenSpacingRow : OpenClaim := { program := "qxb6630804a", sum := "2f1d9b33ac106d285a3a322223dd5f84a71ed1b91db1487736d90064657dcc36", func := "example.com/gateward/gateward/zzlaws_root_b1.FnGapKeptByRotationAndBoundedByEvenSpacing", spec := "fnGapKeptByRotationAndBoundedByEvenSpacing", apart := false }
def FnGapKeptByRotationAndBoundedByEvenSpacingSaid : Prop := fnGapKeptByRotationAndBoundedByEvenSpacingRow.holds Try.pinned (OpenSpec.ofChange fnGapKeptByRotationAndBoundedByEvenSpacingSpec)

/-- ITS FALSE NEIGHBOUR: 'it returns false'. Refute it at one input. -/
def fnGapKeptByRotationAndBoundedByEvenSpacingWrong : ChangeSpec := { name := "fnGapKeptByRotationAndBoundedByEvenSpacing", fn := fun _ => fun
  | [d1, d2, d3, d4, d5, d6, d7] => { results := [.lit (.bool false)], args := [d1, d2, d3, d4, d5, d6, d7] }
  | _ => none }
def FnGapKeptByRotationAndBoundedByEvenSpacingWrongFalsely : Prop := fnGapKeptByRotationAndBoundedByEvenSpacingRow.holds Try.pinned (OpenSpec.ofChange fnGapKeptByRotationAndBoundedByEvenSpacingWrong)

end Rows
end Go.Proofs.Qxb6630804a
