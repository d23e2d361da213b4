import Derived.Test.Qxb6630764aRows
import Derived.Test.Qxb6630764aLawC
import Derived.ProofKit
import Derived.OpenShut
import Derived.ShutString
import Derived.ChangeOld
import Derived.Below
import Derived.Lib.SmallJoins
import Derived.Deep.SlicePairs
namespace Go.Proofs.Qxb6630764a.fnRequestLogAddScriptKeepsSortedLog
open Go.ChangeShapes Go.WideShapes Go.ChangeAt Go.RowKit Go.Joins Go.Deep
set_option linter.unusedVariables false

theorem own : ownKnob Try.prog.godebug = none := by kernel_rfl
theorem laidOut : laidOutB Try.prog = true := by kernel_rfl
theorem cells2 : Try.prog.cellsOf 2 = 1 := by kernel_rfl
theorem cells21 : Try.prog.cellsOf 21 = 1 := by kernel_rfl
theorem cells24 : Try.prog.cellsOf 24 = 2 := by kernel_rfl
theorem cells38 : Try.prog.cellsOf 38 = 4 := by kernel_rfl

theorem walk (ao : Option Addr) (n cap : Nat) (ns rs : List (Int × Int)) (w : World) (hA : Reqs w ao n ns rs) (hn : n ≤ maxLen) :
    Calls Try.prog 4 #[.slice ao n cap] w fun e w' => e = .returned (.bool true) ∧ Below w.heap.size w w' := by
  by_cases he : 4096 < n
  · exact law2_early ao n cap w hn he
  · exact law2_main ao n cap ns rs w hA (by omega)

/-- One instant's two cells. -/
theorem open_inst {H : Type} {enc : TypeId × Value → H} {W : World} {base : Nat} {spare : Nat → Bool} {held : Bool} {fuel : Nat} {c0 c1 : Value} {y : DataW H × List MemPlace}
    (h : DataW.trod enc Try.prog W base spare held fuel 24 [c0, c1] = some y) : ∃ z : Int × Int, c0 = .int .i64 z.1 ∧ c1 = .int .i32 z.2 := by
  obtain ⟨xs, k, _, _, _, hxl, hf⟩ := DataW.trod_struct Try.underlying24 h
  match xs, hxl with
  | [y0, y1], _ =>
    have g0 := hf 0 _ rfl
    have g1 := hf 1 _ rfl
    simp [cells2, cells21] at g0 g1
    obtain ⟨z0, e0, _⟩ := DataW.trod_int Try.underlying2 g0
    obtain ⟨z1, e1, _⟩ := DataW.trod_int Try.underlying21 g1
    simp at e0 e1
    exact ⟨(z0, z1), e0, e1⟩

/-- The slice of requests, opened for the walk. -/
theorem open_reqs {H : Type} {enc : TypeId × Value → H} {W : World} {base : Nat} {spare : Nat → Bool} {held : Bool} {ao : Option Addr} {n cap : Nat} {fuel : Nat} {x : DataW H × List MemPlace}
    (h : DataW.trod enc Try.prog W base spare held fuel 35 [.slice ao n cap] = some x) : (∃ ns rs, Reqs W ao n ns rs) ∧ n ≤ maxLen := by
  rcases open_slice Try.underlying35 h with ⟨hcs, _⟩ | ⟨a, len, cap', m, k, D, Pl, hcs, _, hl, hm, hmm, _, hcell⟩
  · simp at hcs
    obtain ⟨rfl, rfl, rfl⟩ := hcs
    exact ⟨⟨[], [], rfl, rfl, fun q => absurd q (Nat.lt_irrefl _)⟩, Nat.zero_le _⟩
  · simp at hcs
    obtain ⟨rfl, rfl, rfl⟩ := hcs
    refine ⟨?_, Nat.le_trans hl hm⟩
    have hnm : n ≤ m := by rw [hmm]; split <;> omega
    have hv : ∀ i, i < n → ∃ p : (Int × Int) × (Int × Int), W.cell? (a.add (i * 4)) = some (.int .i64 p.1.1) ∧ W.cell? (a.add (i * 4 + 1)) = some (.int .i32 p.1.2) ∧ W.cell? (a.add (i * 4 + 2)) = some (.int .i64 p.2.1) ∧ W.cell? (a.add (i * 4 + 3)) = some (.int .i32 p.2.2) := by
      intro i hi
      obtain ⟨cs', hcs, htr⟩ := hcell i (by omega)
      rw [cells38] at hcs
      obtain ⟨_, hlen, hc⟩ := World.cells?_some hcs
      obtain ⟨xs, j, _, _, _, hxl, hf⟩ := DataW.trod_struct Try.underlying38 htr
      match xs, hxl, cs', hlen with
      | [y0, y1], _, [c0, c1, c2, c3], _ =>
        have g0 := hf 0 _ rfl
        have g1 := hf 1 _ rfl
        simp [cells24] at g0 g1
        obtain ⟨z0, rfl, rfl⟩ := open_inst g0
        obtain ⟨z1, rfl, rfl⟩ := open_inst g1
        have e0 := hc 0 (by omega)
        have e1 := hc 1 (by omega)
        have e2 := hc 2 (by omega)
        have e3 := hc 3 (by omega)
        rw [add_add] at e0 e1 e2 e3
        exact ⟨(z0, z1), by simpa using e0, by simpa using e1, by simpa using e2, by simpa using e3⟩
    obtain ⟨f, hf⟩ := choose_lt hv
    refine ⟨(List.range n).map (fun i => (f i).1), (List.range n).map (fun i => (f i).2), by simp, by simp, fun hpos => ?_⟩
    obtain ⟨b, off, spot⟩ := a
    have hspot : spot = none := by simpa [Addr.add] using World.cell?_spot (hf 0 hpos).1
    subst hspot
    refine ⟨b, off, rfl, fun i hi => ?_⟩
    obtain ⟨c0, c1, c2, c3⟩ := hf i hi
    have e1 : ((List.range n).map (fun i => (f i).1)).getD i (0, 0) = (f i).1 := by simp [List.getD, hi]
    have e2 : ((List.range n).map (fun i => (f i).2)).getD i (0, 0) = (f i).2 := by simp [List.getD, hi]
    rw [e1, e2]
    exact ⟨by simpa [Addr.add_lit] using c0, by simpa [Addr.add_lit, Nat.add_assoc] using c1, by simpa [Addr.add_lit, Nat.add_assoc] using c2, by simpa [Addr.add_lit, Nat.add_assoc] using c3⟩

set_option maxRecDepth 100000 in
theorem lifted (os : Os) (started : os.Started) (H : Type) (enc : TypeId × Value → H) :
    ReturnsInHanded {} Try.checked os 4 .any (Rows.fnRequestLogAddScriptKeepsSortedLogSpec.pre6 enc Try.prog Try.f4 Rows.fnRequestLogAddScriptKeepsSortedLogRow.domain false) (Rows.fnRequestLogAddScriptKeepsSortedLogSpec.post enc Try.prog Try.f4 false true false false) := by
  refine returnsInHanded_of_change (C := Try.checked) own started (by kernel_rfl) Try.func4
    (ChangeSpec.witness6 (enc := enc) (C := Try.checked) false ⟨#[], #[.slice none 0 0], []⟩ 8 (by kernel_rfl) (by kernel_rfl) (by kernel_rfl) (by kernel_rfl)) ?_
  intro W base args ds gs before hval0 hW hcnd _
  have hval : ∀ (j : Nat) t v, Try.f4.params[j]? = some t → args[j]? = some v → Value.okWide Try.prog W .any base t v := hval0
  have hW' := hW
  obtain ⟨p, q, hA0, hV, rfl, hfz, hnd⟩ := hW
  have hA : DataW.TrodAll enc Try.prog W 0 (fun _ => true) true Try.f4.params.toList args.toList ds p := hA0
  rw [Try.params4] at hA hval
  obtain ⟨v0, vs0, d0, ds0, p0, q0, hargs, rfl, rfl, h0, r0⟩ := trodAll_cons hA
  obtain ⟨rfl, rfl, rfl⟩ := trodAll_nil r0
  obtain rfl : args = #[v0] := by cases args; simp_all
  obtain ⟨rfl, rfl⟩ := trodVars_none hV
  have lt0 : ∀ x ∈ p0, x.block < W.heap.size := by obtain ⟨m, hm⟩ := h0; exact DataW.trod_lt m _ _ _ hm
  have k0 := h0
  obtain ⟨a0, len0, cap0, rfl⟩ := okWide_slice Try.underlying35 (hval 0 35 v0 rfl rfl)
  obtain ⟨⟨ns, rs, hR⟩, hlen⟩ : (∃ ns rs, Reqs W a0 len0 ns rs) ∧ len0 ≤ maxLen := by
    obtain ⟨fuel, hf⟩ := h0
    exact open_reqs (by simpa [Value.cells] using hf)
  clear hA0 hval0
  refine (walk a0 len0 cap0 ns rs W hR hlen).mono fun e W' ⟨he, bel⟩ => ?_
  subst he
  exact ⟨_, rfl, _, _, _, [], _, [], hW', trodAll_mk1 (shut_bool Try.underlying4 _), (trodAll_cons_mk (Below.trod laidOut (by kernel_rfl) (of_decide_eq_true (by kernel_rfl)) k0 bel lt0) trodAll_mk0), rfl, bel.frame _, fun h => by cases h⟩

theorem over : Rows.fnRequestLogAddScriptKeepsSortedLogRow.holds Try.pinned (OpenSpec.ofChange Rows.fnRequestLogAddScriptKeepsSortedLogSpec) :=
  OpenClaim.holds_of_wide 4 Try.f4 rfl rfl rfl rfl rfl rfl rfl ⟨rfl, rfl, rfl, rfl, rfl⟩ rfl rfl rfl rfl rfl (by kernel_rfl) Try.func4 (by kernel_rfl)
    (of_decide_eq_true (by kernel_rfl)) (by unfold Func.isWrapper; first | (rw [if_pos (by decide +kernel)]; kernel_rfl) | (rw [if_neg (by decide +kernel)]; exact ⟨rfl, rfl⟩))
    (fun os started H enc _ => lifted os started H enc)

/-- THE STATEMENT. -/
theorem proved : Rows.FnRequestLogAddScriptKeepsSortedLogSaid := over
#print axioms proved
end Go.Proofs.Qxb6630764a.fnRequestLogAddScriptKeepsSortedLog
