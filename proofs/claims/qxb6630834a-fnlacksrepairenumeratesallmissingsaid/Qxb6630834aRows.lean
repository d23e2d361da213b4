/-
  No cell of these rows narrows 'for every input' (looked for: loops, veiled, ifaces, maps, wideKeys, modest, calm, conditions, laid).
  DERIVED. THE GIVEN ROWS OF THIS SEAT. 2 by the template 'for every input the law returns true; each argument reads behind the call as it read before'; 0 by the template 'total and deterministic' (their statements: Qxb6630834aTotals.lean).
  GIVEN WITH THE SEED: the statements are not yours to turn. If you find one false, say at which input.
  Laid BY PROGRAM, IN A SANDBOX (cutbox-rows.mjs): the forced cells as the released guide's own fill.sh prints them over the translation 02a6e01d596f0ba3… (all of the seat's roots in one cut). By AI agents, Wed Nov 11 2026. No macro, syntax, notation, axiom, sorry.
-/
import Derived.Test.Qxb6630834aChecked
import GoSem.Claim
import GoSem.ClaimJoined
import GoSem.ClaimMapViews
import Derived.JoinedTies
import Derived.KernelRfl
namespace Go.Proofs.Qxb6630834a
/- THE CELL 'sum', in the pinned program and in every row, IS THE sha256 OF THE DUMP (.gsa) THAT Qxb6630834aProg.lean LOADS. Nothing in Lean hashes anything: it is a label: what it is worth is what the hold of that sum in a sandbox is worth. -/
noncomputable def Try.pinned : Pinned := { name := "qxb6630834a", sum := "02a6e01d596f0ba3a9822cad7e6448eea045f4e0bf31d81db5e7f0bfc2992d41", checked := Try.checked }
namespace Rows
def none {H : Type} : Left H := { results := [], args := [] }

/-- 'zzlaws_internal_calendar_b1.FnLacksFirstMissingInSpan': WHATEVER THE INPUT: true; the input reads as it did. -/
def fnLacksFirstMissingInSpanSpec : ChangeSpec := { name := "fnLacksFirstMissingInSpan", fn := fun _ => fun
  | [d1, d2] => { results := [.lit (.bool true)], args := [d1, d2] }
  | _ => none }
def fnLacksFirstMissingInSpanRow : OpenClaim := { program := "qxb6630834a", sum := "02a6e01d596f0ba3a9822cad7e6448eea045f4e0bf31d81db5e7f0bfc2992d41", func := "example.com/tuoguan/tuoguan/zzlaws_internal_calendar_b1.FnLacksFirstMissingInSpan", spec := "fnLacksFirstMissingInSpan", apart := false }
def FnLacksFirstMissingInSpanSaid : Prop := fnLacksFirstMissingInSpanRow.holds Try.pinned (OpenSpec.ofChange fnLacksFirstMissingInSpanSpec)

/-- ITS FALSE NEIGHBOUR: 'it returns false'. Refute it at one input. -/
def fnLacksFirstMissingInSpanWrong : ChangeSpec := { name := "fnLacksFirstMissingInSpan", fn := fun _ => fun
  | [d1, d2] => { results := [.lit (.bool false)], args := [d1, d2] }
  | _ => none }
def FnLacksFirstMissingInSpanWrongFalsely : Prop := fnLacksFirstMissingInSpanRow.holds Try.pinned (OpenSpec.ofChange fnLacksFirstMissingInSpanWrong)

/-- 'zzlaws_internal_calendar_b1.FnLacksRepairEnumeratesAllMissing': WHATEVER THE INPUT: true; the input reads as it did. -/
def fnLacksRepairEnumeratesAllMissingSpec : ChangeSpec := { name := "fnLacksRepairEnumeratesAllMissing", fn := fun _ => fun
  | [d1, d2] => { results := [.lit (.bool true)], args := [d1, d2] }
  | _ => none }
def fnLacksRepairEnumeratesAllMissingRow : OpenClaim := { program := "qxb6630834a", sum := "02a6e01d596f0ba3a9822cad7e6448eea045f4e0bf31d81db5e7f0bfc2992d41", func := "example.com/tuoguan/tuoguan/zzlaws_internal_calendar_b1.FnLacksRepairEnumeratesAllMissing", spec := "fnLacksRepairEnumeratesAllMissing", apart := false }
def FnLacksRepairEnumeratesAllMissingSaid : Prop := fnLacksRepairEnumeratesAllMissingRow.holds Try.pinned (OpenSpec.ofChange fnLacksRepairEnumeratesAllMissingSpec)

/-- ITS FALSE NEIGHBOUR: 'it returns false'. Refute it at one input. -/
def fnLacksRepairEnumeratesAllMissingWrong : ChangeSpec := { name := "fnLacksRepairEnumeratesAllMissing", fn := fun _ => fun
  | [d1, d2] => { results := [.lit (.bool false)], args := [d1, d2] }
  | _ => none }
def FnLacksRepairEnumeratesAllMissingWrongFalsely : Prop := fnLacksRepairEnumeratesAllMissingRow.holds Try.pinned (OpenSpec.ofChange fnLacksRepairEnumeratesAllMissingWrong)

end Rows
end Go.Proofs.Qxb6630834a
