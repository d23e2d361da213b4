/-
  No cell of these rows narrows 'for every input' (looked for: loops, veiled, ifaces, maps, wideKeys, modest, calm, conditions, laid).
  DERIVED. THE GIVEN ROWS OF THIS SEAT. 2 by the template 'for every input the law returns true; each argument reads behind the call as it read before'; 0 by the template 'total and deterministic' (their statements: Qxb6630764aTotals.lean).
  GIVEN WITH THE SEED: the statements are not yours to turn. If you find one false, say at which input.
  Laid BY PROGRAM, IN A SANDBOX (cutbox-rows.mjs): the forced cells as the released guide's own fill.sh prints them over the translation 14b282218e98785b… (all of the seat's roots in one cut). By AI agents, Wed Nov 11 2026. No macro, syntax, notation, axiom, sorry.
-/
import Derived.Test.Qxb6630764aChecked
import GoSem.Claim
import GoSem.ClaimJoined
import GoSem.ClaimMapViews
import Derived.JoinedTies
import Derived.KernelRfl
namespace Go.Proofs.Qxb6630764a
/- THE CELL 'sum', in the pinned program and in every row, IS THE sha256 OF THE DUMP (.gsa) THAT Qxb6630764aProg.lean LOADS. Nothing in Lean hashes anything: it is a label: what it is worth is what the hold of that sum in a sandbox is worth. -/
noncomputable def Try.pinned : Pinned := { name := "qxb6630764a", sum := "14b282218e98785b5d0f410d386a992926f3a6ff98a14aa032b2e342940aea5d", checked := Try.checked }
namespace Rows
def none {H : Type} : Left H := { results := [], args := [] }

/-- 'zzlaws_memstore_b1.FnRequestLogAddInsertsInOrder': WHATEVER THE INPUT: true; the input reads as it did. -/
def fnRequestLogAddInsertsInOrderSpec : ChangeSpec := { name := "fnRequestLogAddInsertsInOrder", fn := fun _ => fun
  | [d1, d2, d3, d4, d5, d6, d7] => { results := [.lit (.bool true)], args := [d1, d2, d3, d4, d5, d6, d7] }
  | _ => none }
def fnRequestLogAddInsertsInOrderRow : OpenClaim := { program := "qxb6630764a", sum := "14b282218e98785b5d0f410d386a992926f3a6ff98a14aa032b2e342940aea5d", func := "example.com/pane2/pane2/zzlaws_memstore_b1.FnRequestLogAddInsertsInOrder", spec := "fnRequestLogAddInsertsInOrder", apart := false }
def FnRequestLogAddInsertsInOrderSaid : Prop := fnRequestLogAddInsertsInOrderRow.holds Try.pinned (OpenSpec.ofChange fnRequestLogAddInsertsInOrderSpec)

/-- ITS FALSE NEIGHBOUR: 'it returns false'. Refute it at one input. -/
def fnRequestLogAddInsertsInOrderWrong : ChangeSpec := { name := "fnRequestLogAddInsertsInOrder", fn := fun _ => fun
  | [d1, d2, d3, d4, d5, d6, d7] => { results := [.lit (.bool false)], args := [d1, d2, d3, d4, d5, d6, d7] }
  | _ => none }
def FnRequestLogAddInsertsInOrderWrongFalsely : Prop := fnRequestLogAddInsertsInOrderRow.holds Try.pinned (OpenSpec.ofChange fnRequestLogAddInsertsInOrderWrong)

/-- 'zzlaws_memstore_b1.FnRequestLogAddScriptKeepsSortedLog': WHATEVER THE INPUT: true; the input reads as it did. -/
def fnRequestLogAddScriptKeepsSortedLogSpec : ChangeSpec := { name := "fnRequestLogAddScriptKeepsSortedLog", fn := fun _ => fun
  | [d] => { results := [.lit (.bool true)], args := [d] }
  | _ => none }
def fnRequestLogAddScriptKeepsSortedLogRow : OpenClaim := { program := "qxb6630764a", sum := "14b282218e98785b5d0f410d386a992926f3a6ff98a14aa032b2e342940aea5d", func := "example.com/pane2/pane2/zzlaws_memstore_b1.FnRequestLogAddScriptKeepsSortedLog", spec := "fnRequestLogAddScriptKeepsSortedLog", recurses := true, apart := false }
def FnRequestLogAddScriptKeepsSortedLogSaid : Prop := fnRequestLogAddScriptKeepsSortedLogRow.holds Try.pinned (OpenSpec.ofChange fnRequestLogAddScriptKeepsSortedLogSpec)

/-- ITS FALSE NEIGHBOUR: 'it returns false'. Refute it at one input. -/
def fnRequestLogAddScriptKeepsSortedLogWrong : ChangeSpec := { name := "fnRequestLogAddScriptKeepsSortedLog", fn := fun _ => fun
  | [d] => { results := [.lit (.bool false)], args := [d] }
  | _ => none }
def FnRequestLogAddScriptKeepsSortedLogWrongFalsely : Prop := fnRequestLogAddScriptKeepsSortedLogRow.holds Try.pinned (OpenSpec.ofChange fnRequestLogAddScriptKeepsSortedLogWrong)

end Rows
end Go.Proofs.Qxb6630764a
