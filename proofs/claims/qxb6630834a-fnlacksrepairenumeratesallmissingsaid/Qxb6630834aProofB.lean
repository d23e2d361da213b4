import Derived.Test.Qxb6630834aRows
import Derived.Test.Qxb6630834aLawB
import Derived.ProofKit
import Derived.OpenShut
import Derived.ShutString
import Derived.ChangeOld
import Derived.Below
import Derived.SliceStrings
import Derived.Lib.SmallJoins
namespace Go.Proofs.Qxb6630834a
open Go.ChangeShapes Go.WideShapes Go.ChangeAt Go.RowKit Go.Joins

theorem cells9 : Try.prog.cellsOf 9 = 1 := by kernel_rfl

/-- The slice of strings, opened for the walk. -/
theorem open_strs1 {H : Type} {enc : TypeId × Value → H} {W : World} {base : Nat} {spare : Nat → Bool} {held : Bool} {ao : Option Addr} {n cap : Nat} {fuel : Nat} {x : DataW H × List MemPlace}
    (h : DataW.trod enc Try.prog W base spare held fuel 22 [.slice ao n cap] = some x) : (∃ S, Strs W ao n S) ∧ n ≤ maxLen ∧ n ≤ cap := by
  rcases open_strings Try.underlying22 Try.underlying9 cells9 h with ⟨hcs, _⟩ | ⟨a, len, cap', ss, hcs, _, hl, hm, hz, _, hcell, _⟩
  · simp at hcs
    obtain ⟨rfl, rfl, rfl⟩ := hcs
    exact ⟨⟨fun _ => ⟨#[]⟩, fun q => absurd q (Nat.lt_irrefl _)⟩, Nat.zero_le _, Nat.le_refl _⟩
  · simp at hcs
    obtain ⟨rfl, rfl, rfl⟩ := hcs
    refine ⟨⟨fun i => ss.getD i ByteArray.empty, fun hpos => ?_⟩, Nat.le_trans hl hm, hl⟩
    have hnm : n ≤ ss.length := by rw [hz]; split <;> omega
    obtain ⟨b, off, spot⟩ := a
    have hspot : spot = none := by simpa [Addr.add] using World.cell?_spot (hcell 0 (by omega))
    subst hspot
    refine ⟨b, off, rfl, fun i hi => ?_⟩
    have := hcell i (by omega)
    simpa [Addr.add_lit] using this

end Go.Proofs.Qxb6630834a

namespace Go.Proofs.Qxb6630834a.fnLacksRepairEnumeratesAllMissing
open Go.ChangeShapes Go.WideShapes Go.ChangeAt Go.RowKit Go.Joins
set_option linter.unusedVariables false

theorem own : ownKnob Try.prog.godebug = none := by kernel_rfl
theorem laidOut : laidOutB Try.prog = true := by kernel_rfl

set_option maxRecDepth 100000 in
theorem lifted (os : Os) (started : os.Started) (H : Type) (enc : TypeId × Value → H) :
    ReturnsInHanded {} Try.checked os 4 .any (Rows.fnLacksRepairEnumeratesAllMissingSpec.pre6 enc Try.prog Try.f4 Rows.fnLacksRepairEnumeratesAllMissingRow.domain false) (Rows.fnLacksRepairEnumeratesAllMissingSpec.post enc Try.prog Try.f4 false true false false) := by
  refine returnsInHanded_of_change (C := Try.checked) own started (by kernel_rfl) Try.func4
    (ChangeSpec.witness6 (enc := enc) (C := Try.checked) false ⟨#[], #[.slice none 0 0, .slice none 0 0], []⟩ 8 (by kernel_rfl) (by kernel_rfl) (by kernel_rfl) (by kernel_rfl)) ?_
  intro W base args ds gs before hval0 hW hcnd _
  have hval : ∀ (j : Nat) t v, Try.f4.params[j]? = some t → args[j]? = some v → Value.okWide Try.prog W .any base t v := hval0
  have hW' := hW
  obtain ⟨p, q, hA0, hV, rfl, hfz, hnd⟩ := hW
  have hA : DataW.TrodAll enc Try.prog W 0 (fun _ => true) true Try.f4.params.toList args.toList ds p := hA0
  rw [Try.params4] at hA hval
  obtain ⟨v0, vs0, d0, ds0, p0, q0, hargs, rfl, rfl, h0, r0⟩ := trodAll_cons hA
  obtain ⟨v1, vs1, d1, ds1, p1, q1, hargs1, rfl, rfl, h1, r1⟩ := trodAll_cons r0
  obtain ⟨rfl, rfl, rfl⟩ := trodAll_nil r1
  obtain rfl : args = #[v0, v1] := by cases args; simp_all
  obtain ⟨rfl, rfl⟩ := trodVars_none hV
  have lt0 : ∀ x ∈ p0, x.block < W.heap.size := by obtain ⟨m, hm⟩ := h0; exact DataW.trod_lt m _ _ _ hm
  have lt1 : ∀ x ∈ p1, x.block < W.heap.size := by obtain ⟨m, hm⟩ := h1; exact DataW.trod_lt m _ _ _ hm
  have k0 := h0
  have k1 := h1
  obtain ⟨a0, len0, cap0, rfl⟩ := okWide_slice Try.underlying22 (hval 0 22 v0 rfl rfl)
  obtain ⟨a1, len1, cap1, rfl⟩ := okWide_slice Try.underlying22 (hval 1 22 v1 rfl rfl)
  obtain ⟨⟨S, hS⟩, hl0, hc0⟩ : (∃ S, Strs W a0 len0 S) ∧ len0 ≤ maxLen ∧ len0 ≤ cap0 := by
    obtain ⟨fuel, hf⟩ := h0
    exact open_strs1 (by simpa [Value.cells] using hf)
  obtain ⟨⟨O, hO⟩, hl1, hc1⟩ : (∃ S, Strs W a1 len1 S) ∧ len1 ≤ maxLen ∧ len1 ≤ cap1 := by
    obtain ⟨fuel, hf⟩ := h1
    exact open_strs1 (by simpa [Value.cells] using hf)
  clear hA0 hval0
  refine (law2_any a0 len0 cap0 S a1 len1 cap1 O W hl0 hl1 hc1 hS hO).mono fun e W' ⟨he, bel⟩ => ?_
  subst he
  exact ⟨_, rfl, _, _, _, [], _, [], hW', trodAll_mk1 (shut_bool Try.underlying4 _), (trodAll_cons_mk (Below.trod laidOut (by kernel_rfl) (of_decide_eq_true (by kernel_rfl)) k0 bel lt0) (trodAll_cons_mk (Below.trod laidOut (by kernel_rfl) (of_decide_eq_true (by kernel_rfl)) k1 bel lt1) trodAll_mk0)), rfl, bel.frame _, fun h => by cases h⟩

theorem over : Rows.fnLacksRepairEnumeratesAllMissingRow.holds Try.pinned (OpenSpec.ofChange Rows.fnLacksRepairEnumeratesAllMissingSpec) :=
  OpenClaim.holds_of_wide 4 Try.f4 rfl rfl rfl rfl rfl rfl rfl ⟨rfl, rfl, rfl, rfl, rfl⟩ rfl rfl rfl rfl rfl (by kernel_rfl) Try.func4 (by kernel_rfl)
    (of_decide_eq_true (by kernel_rfl)) (by unfold Func.isWrapper; first | (rw [if_pos (by decide +kernel)]; kernel_rfl) | (rw [if_neg (by decide +kernel)]; exact ⟨rfl, rfl⟩))
    (fun os started H enc _ => lifted os started H enc)

/-- THE STATEMENT. -/
theorem proved : Rows.FnLacksRepairEnumeratesAllMissingSaid := over
#print axioms proved
end Go.Proofs.Qxb6630834a.fnLacksRepairEnumeratesAllMissing
