import Derived.WalkKit
import Derived.Deep.Draws
namespace Go.Proofs.Qxb6630764a
open Go.RowKit

theorem hide {p : Prop} (h : p) : Hid p := h

/-! ### Instants in memory: two cells each -/
def flat : List (Int × Int) → List Value
  | [] => []
  | p :: r => .int .i64 p.1 :: .int .i32 p.2 :: flat r

theorem flat_length (xs : List (Int × Int)) : (flat xs).length = xs.length * 2 := by
  induction xs with
  | nil => rfl
  | cons p r ih => simp [flat, ih]; omega

theorem flat_append (xs ys : List (Int × Int)) : flat (xs ++ ys) = flat xs ++ flat ys := by
  induction xs with
  | nil => rfl
  | cons p r ih => simp [flat, ih]

theorem flat_take (xs : List (Int × Int)) (k : Nat) : flat (xs.take k) = (flat xs).take (k * 2) := by
  induction xs generalizing k with
  | nil => simp [flat]
  | cons p r ih =>
    cases k with
    | zero => simp [flat]
    | succ k => rw [show (k + 1) * 2 = k * 2 + 1 + 1 by omega]; simp [flat, ih]

theorem flat_drop (xs : List (Int × Int)) (k : Nat) : flat (xs.drop k) = (flat xs).drop (k * 2) := by
  induction xs generalizing k with
  | nil => simp [flat]
  | cons p r ih =>
    cases k with
    | zero => simp [flat]
    | succ k => rw [show (k + 1) * 2 = k * 2 + 1 + 1 by omega]; simp [flat, ih]

theorem flat_get0 (xs : List (Int × Int)) (i : Nat) (h : i < xs.length) : (flat xs)[i * 2]? = some (.int .i64 (xs.getD i (0, 0)).1) := by
  induction xs generalizing i with
  | nil => simp at h
  | cons p r ih =>
    cases i with
    | zero => simp [flat]
    | succ i => rw [show (i + 1) * 2 = i * 2 + 1 + 1 by omega]; simpa [flat] using ih i (by simpa using h)

theorem flat_get1 (xs : List (Int × Int)) (i : Nat) (h : i < xs.length) : (flat xs)[i * 2 + 1]? = some (.int .i32 (xs.getD i (0, 0)).2) := by
  induction xs generalizing i with
  | nil => simp at h
  | cons p r ih =>
    cases i with
    | zero => simp [flat]
    | succ i => rw [show (i + 1) * 2 + 1 = i * 2 + 1 + 1 + 1 by omega]; simpa [flat] using ih i (by simpa using h)

theorem flat_set (xs : List (Int × Int)) (i : Nat) (p : Int × Int) : ((flat xs).set (i * 2) (.int .i64 p.1)).set (i * 2 + 1) (.int .i32 p.2) = flat (xs.set i p) := by
  induction xs generalizing i with
  | nil => simp [flat]
  | cons q r ih =>
    cases i with
    | zero => simp [flat]
    | succ i => rw [show (i + 1) * 2 = i * 2 + 1 + 1 by omega]; simpa [flat] using ih i

theorem flat_one (xs : List (Int × Int)) : ∀ u ∈ flat xs, u.oneCell' = true := by
  induction xs with
  | nil => simp [flat]
  | cons p r ih => simp [flat]; exact ⟨rfl, rfl, ih⟩

theorem flat_replicate (n : Nat) : flat (List.replicate n (0, 0)) = (madeCells #[.int .i64 0, .int .i32 0] (n * 2)).toList := by
  apply List.ext_getElem?
  intro j
  by_cases hj : j < n * 2
  · have hr : (madeCells #[.int .i64 0, .int .i32 0] (n * 2)).toList[j]? = some ((#[.int .i64 0, .int .i32 0] : Array Value)[j % 2]!) := by simp [madeCells, hj]
    rw [hr]
    rcases Nat.mod_two_eq_zero_or_one j with h | h
    · obtain ⟨i, rfl⟩ : ∃ i, j = i * 2 := ⟨j / 2, by omega⟩
      rw [flat_get0 _ _ (by simp; omega), h]
      simp [List.getD, List.getElem?_replicate]
      rw [if_pos (by omega)]; rfl
    · obtain ⟨i, rfl⟩ : ∃ i, j = i * 2 + 1 := ⟨j / 2, by omega⟩
      rw [flat_get1 _ _ (by simp; omega), h]
      simp [List.getD, List.getElem?_replicate]
      rw [if_pos (by omega)]; rfl
  · rw [List.getElem?_eq_none (by rw [flat_length]; simp; omega), List.getElem?_eq_none (by simp [madeCells]; omega)]

/-- A row that is filled from its head on. -/
theorem fill_set {α : Type} (xs : List α) (z d : α) (k n : Nat) (hx : xs.length = n) (hk : k < n) : (xs.take k ++ List.replicate (n - k) z).set k (xs.getD k d) = xs.take (k + 1) ++ List.replicate (n - (k + 1)) z := by
  obtain ⟨m, hm⟩ : ∃ m, n - k = m + 1 := ⟨n - k - 1, by omega⟩
  have hl : (xs.take k).length = k := by simp; omega
  rw [hm, List.replicate_succ, List.set_append_right _ _ (by omega), hl, Nat.sub_self, List.set_cons_zero, show n - (k + 1) = m by omega]
  have e := List.take_succ_eq_append_getElem (l := xs) (i := k) (by omega)
  have e2 : xs.getD k d = xs[k]'(by omega) := by simp [List.getD, List.getElem?_eq_getElem (show k < xs.length by omega)]
  rw [e, e2, List.append_assoc]
  rfl

/-! ### What of memory has not turned -/
structure Kept (bad : Nat → Prop) (w w' : World) : Prop where
  os : w'.os = w.os
  tape : w'.tape = w.tape
  output : w'.output = w.output
  size : w.heap.size ≤ w'.heap.size
  block : ∀ k, k < w.heap.size → ¬ bad k → w'.heap[k]? = w.heap[k]?

theorem Kept.refl (bad : Nat → Prop) (w : World) : Kept bad w w := ⟨rfl, rfl, rfl, Nat.le_refl _, fun _ _ _ => rfl⟩

theorem Kept.trans {bad bad' : Nat → Prop} {a b c : World} (h : Kept bad a b) (k : Kept bad' b c) (hb : ∀ i, i < a.heap.size → bad' i → bad i) : Kept bad a c :=
  ⟨k.os.trans h.os, k.tape.trans h.tape, k.output.trans h.output, Nat.le_trans h.size k.size, fun i hi hn => (k.block i (Nat.lt_of_lt_of_le hi h.size) (fun q => hn (hb i hi q))).trans (h.block i hi hn)⟩

theorem Kept.of_below {bad : Nat → Prop} {w w' : World} (h : Below w.heap.size w w') : Kept bad w w' :=
  ⟨h.os, h.tape, h.output, h.size, fun k hk _ => h.block k hk⟩

theorem Kept.of_grown {w w' : World} {row : Option Nat} (h : w.grownBy w' row) : Kept (fun k => some k = row) w w' :=
  ⟨h.os, h.tape, h.output, h.size, fun k hk hn => h.block k hk hn⟩

theorem Kept.alloc {bad : Nat → Prop} {a w : World} (h : Kept bad a w) (o : Obj) : Kept bad a (w.alloc o) :=
  h.trans (bad' := fun _ => False) ⟨rfl, rfl, rfl, by simp, fun k hk _ => Below.heap_alloc w o k hk⟩ (fun _ _ q => q.elim)

theorem Kept.drew {bad : Nat → Prop} {a w : World} (h : Kept bad a w) : Kept bad a w.drew := ⟨h.os, h.tape, h.output, h.size, h.block⟩

theorem Kept.drewN {bad : Nat → Prop} {a w : World} (h : Kept bad a w) (n : Nat) : Kept bad a (w.drewN n) := ⟨h.os, h.tape, h.output, h.size, h.block⟩

theorem Kept.setCell {bad : Nat → Prop} {a w : World} (h : Kept bad a w) (p : Addr) (hp : p.block < a.heap.size → bad p.block) (u : Value) : Kept bad a (w.setCell p u) :=
  h.trans (bad' := fun k => k = p.block) ⟨rfl, rfl, rfl, by simp, fun k _ hk => heap_setCell_other w p k u hk⟩ (fun i hi q => by subst q; exact hp hi)

theorem Kept.below {bad : Nat → Prop} {w w' : World} (h : Kept bad w w') (B : Nat) (hB : B ≤ w.heap.size) (hb : ∀ k, k < B → ¬ bad k) : Below B w w' :=
  ⟨h.os, h.tape, h.output, h.size, fun k hk => h.block k (by omega) (hb k hk)⟩

/-- A row that the call owns, where its block has not turned. -/
theorem owns_kept {bad : Nat → Prop} {w w' : World} {base : Nat} {e : TypeId} {size g n cap : Nat} {m : Nat} {xs : List Value} (h : w.ownsRow base e size (.slice (some ⟨g, 0, none⟩) n cap) m xs) (hk : Kept bad w w') (hg : ¬ bad g) :
    w'.ownsRow base e size (.slice (some ⟨g, 0, none⟩) n cap) m xs := by
  refine ⟨h.1, ?_⟩
  rcases h.2 with ⟨hv, _⟩ | ⟨g', cap', cur, hv, hb, hh, r⟩
  · simp at hv
  · simp only [Value.slice.injEq, Option.some.injEq, Addr.mk.injEq, and_true] at hv
    obtain ⟨rfl, hn, rfl⟩ := hv
    refine .inr ⟨g, cap, cur, by rw [hn], hb, ?_, r⟩
    rw [hk.block g (Array.getElem?_eq_some_iff.1 hh).1 hg]; exact hh

theorem owns_other {w : World} {base : Nat} {e : TypeId} {size g n cap : Nat} {m : Nat} {xs : List Value} (h : w.ownsRow base e size (.slice (some ⟨g, 0, none⟩) n cap) m xs) (a : Addr) (hne : a.block ≠ g) (u : Value) :
    (w.setCell a u).ownsRow base e size (.slice (some ⟨g, 0, none⟩) n cap) m xs :=
  owns_kept h ((Kept.refl (fun k => k = a.block) w).setCell a (fun _ => rfl) u) (fun q => hne q.symm)

theorem owns_lt {w : World} {base : Nat} {e : TypeId} {size g n cap : Nat} {m : Nat} {xs : List Value} (h : w.ownsRow base e size (.slice (some ⟨g, 0, none⟩) n cap) m xs) : base ≤ g ∧ g < w.heap.size :=
  h.lt g rfl

/-- Its block, opened. -/
theorem owns_open {w : World} {base : Nat} {e : TypeId} {size g n cap : Nat} {xs : List Value} (h : w.ownsRow base e size (.slice (some ⟨g, 0, none⟩) n cap) n xs) :
    ∃ cur : Array Value, w.heap[g]? = some (.cells cur e (0, 0)) ∧ base ≤ g ∧ n ≤ cap ∧ cap ≤ maxLen ∧ cur.size = cap * size ∧ cur.toList.take (n * size) = xs := by
  rcases h.2 with ⟨hv, _⟩ | ⟨g', cap', cur, hv, hb, hh, r⟩
  · simp at hv
  · simp only [Value.slice.injEq, Option.some.injEq, Addr.mk.injEq, and_true, true_and] at hv
    obtain ⟨rfl, rfl⟩ := hv
    exact ⟨cur, hh, hb, r⟩

theorem owns_mk {w : World} {base : Nat} {e : TypeId} {size g n cap : Nat} {xs : List Value} {cur : Array Value} (hg : w.heap[g]? = some (.cells cur e (0, 0))) (hb : base ≤ g) (hn : n ≤ cap) (hc : cap ≤ maxLen) (hs : cur.size = cap * size) (ht : cur.toList.take (n * size) = xs) :
    w.ownsRow base e size (.slice (some ⟨g, 0, none⟩) n cap) n xs :=
  ⟨by rw [← ht, List.length_take, Array.length_toList, hs]; exact Nat.min_eq_left (Nat.mul_le_mul_right _ hn), .inr ⟨g, cap, cur, rfl, hb, hg, hn, hc, hs, ht⟩⟩

/-- An instant's two cells in an owned row. -/
theorem inst_at {w : World} {base : Nat} {e : TypeId} {g n cap : Nat} {xs : List (Int × Int)} (h : w.ownsRow base e 2 (.slice (some ⟨g, 0, none⟩) n cap) n (flat xs)) (hx : xs.length = n) (i : Nat) (hi : i < n) :
    w.cell? ⟨g, i * 2, none⟩ = some (.int .i64 (xs.getD i (0, 0)).1) ∧ w.cell? ⟨g, i * 2 + 1, none⟩ = some (.int .i32 (xs.getD i (0, 0)).2) := by
  rw [h.cellAt _ (by omega), h.cellAt _ (by omega)]
  exact ⟨flat_get0 _ _ (by omega), flat_get1 _ _ (by omega)⟩

/-- An instant stored into an owned row. -/
theorem inst_set {w : World} {base : Nat} {e : TypeId} {g n cap : Nat} {xs : List (Int × Int)} (h : w.ownsRow base e 2 (.slice (some ⟨g, 0, none⟩) n cap) n (flat xs)) (i : Nat) (p : Int × Int) :
    ((w.setCell ⟨g, i * 2, none⟩ (.int .i64 p.1)).setCell ⟨g, i * 2 + 1, none⟩ (.int .i32 p.2)).ownsRow base e 2 (.slice (some ⟨g, 0, none⟩) n cap) n (flat (xs.set i p)) := by
  have h1 := (h.stored (i * 2) (.int .i64 p.1)).1
  have h2 := (h1.stored (i * 2 + 1) (.int .i32 p.2)).1
  rw [flat_set] at h2
  exact h2

/-! ### copy at whatever size -/
theorem run_copy_cells {P : Program} (w : World) (dT sT ty elem : TypeId) (g o dLen dCap : Nat) (a : Addr) (sLen sCap : Nat) (cur : Array Value) (t : TypeId) (cs : List Value) (size m : Nat)
    (hu : P.underlying dT = some (.slice elem)) (hs : (P.info? elem).map (·.size) = some size)
    (hg : w.heap[g]? = some (.cells cur t (0, 0))) (hm : Nat.min sLen dLen = m) (hn : cs.length = m * size)
    (hsrc : ∀ j v, cs[j]? = some v → w.cell? (a.add j) = some v) (hfit : o + cs.length ≤ cur.size) (h1 : ∀ v ∈ cs, v.oneCell' = true) :
    (Builtin.copy_ #[dT, sT] ty #[.slice (some ⟨g, o, none⟩) dLen dCap, .slice (some a) sLen sCap]).run P w =
      .ok (goInt m) (w.setRow g (cur.toList.take o ++ cs ++ cur.toList.drop (o + cs.length)).toArray) := by
  have hl := run_loadCells_list (P := P) w a cs hsrc
  have hst := run_storeCells_at P g o t cs 0 cur w hg (by simpa using hfit) h1
  cases hq : P.info? elem with
  | none => simp [hq] at hs
  | some i =>
    have hi : i.size = size := by simpa [hq] using hs
    rw [hn] at hl
    simp [Builtin.copy_, run_underlying hu, Builtin.lenOf, Builtin.firstCells, sizeOf, typeInfo, hq, hi, hm, hl, hst]

theorem run_copy_zero {P : Program} (w : World) (dT sT ty elem : TypeId) (dp sp : Option Addr) (dLen dCap sLen sCap : Nat) (hu : P.underlying dT = some (.slice elem)) (hs : ((P.info? elem).map (·.size)).isSome = true) (hn : Nat.min sLen dLen = 0) :
    (Builtin.copy_ #[dT, sT] ty #[.slice dp dLen dCap, .slice sp sLen sCap]).run P w = .ok (goInt 0) w := by
  cases hq : P.info? elem with
  | none => simp [hq] at hs
  | some i => cases dp <;> cases sp <;> simp [Builtin.copy_, run_underlying hu, Builtin.lenOf, Builtin.firstCells, sizeOf, typeInfo, hq, hn, storeCells, loadCells, loadCellsFrom]

theorem kept_setRow (w : World) (g : Nat) (cs : Array Value) : Kept (fun k => k = g) w (w.setRow g cs) :=
  ⟨rfl, rfl, rfl, by simp, fun k _ hk => setRow_other w g k cs hk⟩

/-- The copy as a law for the walk: the place and the cells are given by the prover. -/
theorem wpList_copy_cells {P : Program} {w : World} {ops : Array Oper} {rest : List Oper} {o : Oper} {a : Act} {Q : Exit → Act → World → Prop} (hgd : o.guard = none) (d s : Operand) (dT sT : TypeId)
    (ho : o.op = .call { callee := .builtin .copy, args := #[d, s], argTypes := #[dT, sT] }) (elem : TypeId) (hu : P.underlying dT = some (.slice elem)) (size : Nat) (hsz : (P.info? elem).map (·.size) = some size)
    (dp sp : Option Addr) (dLen dCap sLen sCap : Nat) (hd : a.eval d = .slice dp dLen dCap) (hs : a.eval s = .slice sp sLen sCap)
    (g off : Nat) (cur : Array Value) (t : TypeId) (hg : w.heap[g]? = some (.cells cur t (0, 0))) (m : Nat) (hm : Nat.min sLen dLen = m) (cs : List Value) (hn : cs.length = m * size)
    (hpos : 0 < m → dp = some ⟨g, off, none⟩ ∧ ∃ ad, sp = some ad ∧ ∀ j v, cs[j]? = some v → w.cell? (ad.add j) = some v)
    (hfit : off + cs.length ≤ cur.size) (h1 : ∀ v ∈ cs, v.oneCell' = true)
    (h : ∀ w', Hid (w'.heap[g]? = some (.cells (cur.toList.take off ++ cs ++ cur.toList.drop (off + cs.length)).toArray t (0, 0))) → Kept (fun k => k = g) w w' → wpList P ops Q rest (a.put o.dst (goInt m)) w') :
    wpList P ops Q (o :: rest) a w := by
  by_cases h0 : m = 0
  · subst h0
    obtain rfl : cs = [] := List.eq_nil_of_length_eq_zero (by simpa using hn)
    refine wpList_plain hgd fun K hK => ?_
    have hrun := run_copy_zero (P := P) w dT sT o.type elem dp sp dLen dCap sLen sCap hu (by rw [hsz]; rfl) hm
    unfold Oper.wp
    simp [execOp, ho, resolve, invoke, builtin, hd, hs, hrun, Result.andThen]
    exact hK _ _ (h w (show _ = _ by simpa using hg) (Kept.refl _ _))
  · obtain ⟨rfl, ad, rfl, hsrc⟩ := hpos (by omega)
    refine wpList_plain hgd fun K hK => ?_
    have hrun := run_copy_cells (P := P) w dT sT o.type elem g off dLen dCap ad sLen sCap cur t cs size m hu hsz hg hm hn hsrc hfit h1
    unfold Oper.wp
    simp [execOp, ho, resolve, invoke, builtin, hd, hs, hrun, Result.andThen]
    exact hK _ _ (h _ (show _ = _ by simpa using setRow_heap w g _ _ t _ hg) (by simpa using kept_setRow w g _))

end Go.Proofs.Qxb6630764a
