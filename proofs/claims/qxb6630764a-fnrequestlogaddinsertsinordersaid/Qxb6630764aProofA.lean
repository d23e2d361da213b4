import Derived.Test.Qxb6630764aRows
import Derived.Test.Qxb6630764aLawB
import Derived.ProofKit
import Derived.OpenShut
import Derived.ShutString
import Derived.ChangeOld
import Derived.Below
import Derived.Lib.SmallJoins
import Derived.Deep.SlicePairs
namespace Go.Proofs.Qxb6630764a.fnRequestLogAddInsertsInOrder
open Go.ChangeShapes Go.WideShapes Go.ChangeAt Go.RowKit Go.Joins Go.Deep
set_option linter.unusedVariables false

theorem own : ownKnob Try.prog.godebug = none := by kernel_rfl
theorem laidOut : laidOutB Try.prog = true := by kernel_rfl
theorem cells24 : Try.prog.cellsOf 24 = 2 := by kernel_rfl

theorem bounds32 {n : Int} (h : (Lit.int .i32 n).wf = true) : -2147483648 ≤ n ∧ n ≤ 2147483647 :=
  bounds_i32 h

/-- The walk, at every input. -/
theorem walk (rs rn hd : Int) (ao : Option Addr) (n cap : Nat) (sp a1 a2 b1 b2 : Int) (xs : List (Int × Int)) (w : World) (hA : Arr w ao n xs) (hn : n ≤ maxLen) (h1 : -2147483648 ≤ hd) (h2 : hd ≤ 2147483647) :
    Calls Try.prog 3 #[.int .i64 rs, .int .i32 rn, .int .i32 hd, .slice ao n cap, .int .i64 sp, .agg #[.int .i64 a1, .int .i32 a2], .agg #[.int .i64 b1, .int .i32 b2]] w fun e w' => e = .returned (.bool true) ∧ Below w.heap.size w w' := by
  by_cases he : 65536 < n ∨ sp < 0 ∨ 65536 < sp ∨ hd < 0 ∨ (n : Int) < hd
  · exact law1_early rs rn hd ao n cap sp a1 a2 b1 b2 w hn h1 h2 he
  · obtain ⟨k, rfl⟩ := Int.eq_ofNat_of_zero_le (show 0 ≤ hd by omega)
    obtain ⟨s, rfl⟩ := Int.eq_ofNat_of_zero_le (show 0 ≤ sp by omega)
    exact law1_main rs rn k ao n cap s a1 a2 b1 b2 xs w hA (by omega) (by omega) (by omega)

/-- The slice of instants, opened for the walk. -/
theorem open_arr {H : Type} {enc : TypeId × Value → H} {W : World} {base : Nat} {spare : Nat → Bool} {held : Bool} {ao : Option Addr} {n cap : Nat} {fuel : Nat} {x : DataW H × List MemPlace}
    (h : DataW.trod enc Try.prog W base spare held fuel 22 [.slice ao n cap] = some x) : (∃ xs, Arr W ao n xs) ∧ n ≤ maxLen := by
  rcases open_slice_pairs Try.underlying22 Try.underlying24 cells24 (by kernel_rfl) (by kernel_rfl) (by kernel_rfl) (by kernel_rfl) h with ⟨hcs, _⟩ | ⟨a, len, cap', m, k, V0, V1, D0, D1, P0, P1, hcs, _, hl, hm, hmm, _, hcell⟩
  · simp at hcs
    obtain ⟨rfl, rfl, rfl⟩ := hcs
    exact ⟨⟨[], rfl, fun q => absurd q (Nat.lt_irrefl _)⟩, Nat.zero_le _⟩
  · simp at hcs
    obtain ⟨rfl, rfl, rfl⟩ := hcs
    refine ⟨?_, Nat.le_trans hl hm⟩
    have hnm : n ≤ m := by rw [hmm]; split <;> omega
    have hv : ∀ i, i < n → ∃ p : Int × Int, V0 i = .int .i64 p.1 ∧ V1 i = .int .i32 p.2 := by
      intro i hi
      obtain ⟨_, _, t0, t1⟩ := hcell i (by omega)
      obtain ⟨z0, e0, _⟩ := DataW.trod_int Try.underlying2 t0
      obtain ⟨z1, e1, _⟩ := DataW.trod_int Try.underlying21 t1
      simp at e0 e1
      exact ⟨(z0, z1), e0, e1⟩
    obtain ⟨f, hf⟩ := choose_lt hv
    refine ⟨(List.range n).map f, by simp, fun hpos => ?_⟩
    obtain ⟨b, off, spot⟩ := a
    have hspot : spot = none := by simpa [Addr.add] using World.cell?_spot (hcell 0 (by omega)).1
    subst hspot
    refine ⟨b, off, rfl, fun i hi => ?_⟩
    obtain ⟨c0, c1, _, _⟩ := hcell i (by omega)
    have e : ((List.range n).map f).getD i (0, 0) = f i := by simp [List.getD, hi]
    rw [e, ← (hf i hi).1, ← (hf i hi).2]
    exact ⟨by simpa [Addr.add_lit] using c0, by simpa [Addr.add_lit, Nat.add_assoc] using c1⟩

set_option maxRecDepth 100000 in
theorem lifted (os : Os) (started : os.Started) (H : Type) (enc : TypeId × Value → H) :
    ReturnsInHanded {} Try.checked os 3 .any (Rows.fnRequestLogAddInsertsInOrderSpec.pre6 enc Try.prog Try.f3 Rows.fnRequestLogAddInsertsInOrderRow.domain false) (Rows.fnRequestLogAddInsertsInOrderSpec.post enc Try.prog Try.f3 false true false false) := by
  refine returnsInHanded_of_change (C := Try.checked) own started (by kernel_rfl) Try.func3
    (ChangeSpec.witness6 (enc := enc) (C := Try.checked) false ⟨#[], #[.int .i64 0, .int .i32 0, .int .i32 0, .slice none 0 0, .int .i64 0, .agg #[.int .i64 0, .int .i32 0], .agg #[.int .i64 0, .int .i32 0]], []⟩ 8 (by kernel_rfl) (by kernel_rfl) (by kernel_rfl) (by kernel_rfl)) ?_
  intro W base args ds gs before hval0 hW hcnd _
  have hval : ∀ (j : Nat) t v, Try.f3.params[j]? = some t → args[j]? = some v → Value.okWide Try.prog W .any base t v := hval0
  have hW' := hW
  obtain ⟨p, q, hA0, hV, rfl, hfz, hnd⟩ := hW
  have hA : DataW.TrodAll enc Try.prog W 0 (fun _ => true) true Try.f3.params.toList args.toList ds p := hA0
  rw [Try.params3] at hA hval
  obtain ⟨v0, vs0, d0, ds0, p0, q0, hargs, rfl, rfl, h0, r0⟩ := trodAll_cons hA
  obtain ⟨v1, vs1, d1, ds1, p1, q1, rfl, rfl, rfl, h1, r1⟩ := trodAll_cons r0
  obtain ⟨v2, vs2, d2, ds2, p2, q2, rfl, rfl, rfl, h2, r2⟩ := trodAll_cons r1
  obtain ⟨v3, vs3, d3, ds3, p3, q3, rfl, rfl, rfl, h3, r3⟩ := trodAll_cons r2
  obtain ⟨v4, vs4, d4, ds4, p4, q4, rfl, rfl, rfl, h4, r4⟩ := trodAll_cons r3
  obtain ⟨v5, vs5, d5, ds5, p5, q5, rfl, rfl, rfl, h5, r5⟩ := trodAll_cons r4
  obtain ⟨v6, vs6, d6, ds6, p6, q6, rfl, rfl, rfl, h6, r6⟩ := trodAll_cons r5
  obtain ⟨rfl, rfl, rfl⟩ := trodAll_nil r6
  obtain rfl : args = #[v0, v1, v2, v3, v4, v5, v6] := by cases args; simp_all
  obtain ⟨rfl, rfl⟩ := trodVars_none hV
  have lt0 : ∀ x ∈ p0, x.block < W.heap.size := by obtain ⟨m, hm⟩ := h0; exact DataW.trod_lt m _ _ _ hm
  have lt1 : ∀ x ∈ p1, x.block < W.heap.size := by obtain ⟨m, hm⟩ := h1; exact DataW.trod_lt m _ _ _ hm
  have lt2 : ∀ x ∈ p2, x.block < W.heap.size := by obtain ⟨m, hm⟩ := h2; exact DataW.trod_lt m _ _ _ hm
  have lt3 : ∀ x ∈ p3, x.block < W.heap.size := by obtain ⟨m, hm⟩ := h3; exact DataW.trod_lt m _ _ _ hm
  have lt4 : ∀ x ∈ p4, x.block < W.heap.size := by obtain ⟨m, hm⟩ := h4; exact DataW.trod_lt m _ _ _ hm
  have lt5 : ∀ x ∈ p5, x.block < W.heap.size := by obtain ⟨m, hm⟩ := h5; exact DataW.trod_lt m _ _ _ hm
  have lt6 : ∀ x ∈ p6, x.block < W.heap.size := by obtain ⟨m, hm⟩ := h6; exact DataW.trod_lt m _ _ _ hm
  have k0 := h0
  have k1 := h1
  have k2 := h2
  have k3 := h3
  have k4 := h4
  have k5 := h5
  have k6 := h6
  obtain ⟨a0, rfl, _, _, w0⟩ := open_int Try.underlying2 (hval 0 2 v0 rfl rfl) h0
  obtain ⟨a1, rfl, _, _, w1⟩ := open_int Try.underlying21 (hval 1 21 v1 rfl rfl) h1
  obtain ⟨a2, rfl, _, _, w2⟩ := open_int Try.underlying21 (hval 2 21 v2 rfl rfl) h2
  obtain ⟨a3, len3, cap3, rfl⟩ := okWide_slice Try.underlying22 (hval 3 22 v3 rfl rfl)
  obtain ⟨⟨xs, hArr⟩, hlen⟩ : (∃ xs, Arr W a3 len3 xs) ∧ len3 ≤ maxLen := by
    obtain ⟨fuel, hf⟩ := h3
    exact open_arr (by simpa [Value.cells] using hf)
  obtain ⟨a4, rfl, _, _, w4⟩ := open_int Try.underlying3 (hval 4 3 v4 rfl rfl) h4
  obtain ⟨c50, c51, y50, y51, m5, rfl, _, _, t50, t51⟩ := open_agg2 Try.underlying24 (by kernel_rfl) cells24 (hval 5 24 v5 rfl rfl) h5
  obtain ⟨z50, e50, _⟩ := DataW.trod_int Try.underlying2 t50
  obtain ⟨z51, e51, _⟩ := DataW.trod_int Try.underlying21 t51
  obtain ⟨c60, c61, y60, y61, m6, rfl, _, _, t60, t61⟩ := open_agg2 Try.underlying24 (by kernel_rfl) cells24 (hval 6 24 v6 rfl rfl) h6
  obtain ⟨z60, e60, _⟩ := DataW.trod_int Try.underlying2 t60
  obtain ⟨z61, e61, _⟩ := DataW.trod_int Try.underlying21 t61
  simp at e50 e51 e60 e61
  subst e50 e51 e60 e61
  clear hA0 hval0
  obtain ⟨lo2, hi2⟩ := bounds32 w2
  refine (walk a0 a1 a2 a3 len3 cap3 a4 z50 z51 z60 z61 xs W hArr hlen lo2 hi2).mono fun e W' ⟨he, bel⟩ => ?_
  subst he
  exact ⟨_, rfl, _, _, _, [], _, [], hW', trodAll_mk1 (shut_bool Try.underlying4 _), (trodAll_cons_mk (Below.trod laidOut (by kernel_rfl) (of_decide_eq_true (by kernel_rfl)) k0 bel lt0) (trodAll_cons_mk (Below.trod laidOut (by kernel_rfl) (of_decide_eq_true (by kernel_rfl)) k1 bel lt1) (trodAll_cons_mk (Below.trod laidOut (by kernel_rfl) (of_decide_eq_true (by kernel_rfl)) k2 bel lt2) (trodAll_cons_mk (Below.trod laidOut (by kernel_rfl) (of_decide_eq_true (by kernel_rfl)) k3 bel lt3) (trodAll_cons_mk (Below.trod laidOut (by kernel_rfl) (of_decide_eq_true (by kernel_rfl)) k4 bel lt4) (trodAll_cons_mk (Below.trod laidOut (by kernel_rfl) (of_decide_eq_true (by kernel_rfl)) k5 bel lt5) (trodAll_cons_mk (Below.trod laidOut (by kernel_rfl) (of_decide_eq_true (by kernel_rfl)) k6 bel lt6) trodAll_mk0))))))), rfl, bel.frame _, fun h => by cases h⟩

theorem over : Rows.fnRequestLogAddInsertsInOrderRow.holds Try.pinned (OpenSpec.ofChange Rows.fnRequestLogAddInsertsInOrderSpec) :=
  OpenClaim.holds_of_wide 3 Try.f3 rfl rfl rfl rfl rfl rfl rfl ⟨rfl, rfl, rfl, rfl, rfl⟩ rfl rfl rfl rfl rfl (by kernel_rfl) Try.func3 (by kernel_rfl)
    (of_decide_eq_true (by kernel_rfl)) (by unfold Func.isWrapper; first | (rw [if_pos (by decide +kernel)]; kernel_rfl) | (rw [if_neg (by decide +kernel)]; exact ⟨rfl, rfl⟩))
    (fun os started H enc _ => lifted os started H enc)

/-- THE STATEMENT. -/
theorem proved : Rows.FnRequestLogAddInsertsInOrderSaid := over
#print axioms proved
end Go.Proofs.Qxb6630764a.fnRequestLogAddInsertsInOrder
