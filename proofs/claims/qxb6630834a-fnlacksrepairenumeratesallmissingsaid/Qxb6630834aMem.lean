import Derived.Test.Qxb6630834aReads
import Derived.Test.Qxb6630834aBytes
import Derived.Deep.Draws
import Derived.Deep.DeepCutAuto
import Derived.Lib.QuietBelow
namespace Go.Proofs.Qxb6630834a
open Go.RowKit

/-! ### What of memory has not turned -/
structure Kept (bad : Nat → Prop) (w w' : World) : Prop where
  os : w'.os = w.os
  tape : w'.tape = w.tape
  output : w'.output = w.output
  size : w.heap.size ≤ w'.heap.size
  block : ∀ k, k < w.heap.size → ¬ bad k → w'.heap[k]? = w.heap[k]?

theorem Kept.refl (bad : Nat → Prop) (w : World) : Kept bad w w := ⟨rfl, rfl, rfl, Nat.le_refl _, fun _ _ _ => rfl⟩

theorem Kept.below {bad : Nat → Prop} {w w' : World} (h : Kept bad w w') (B : Nat) (hB : B ≤ w.heap.size) (hb : ∀ k, k < B → ¬ bad k) : Below B w w' :=
  ⟨h.os, h.tape, h.output, h.size, fun k hk => h.block k (by omega) (hb k hk)⟩

/-! ### copy at whatever size -/
theorem run_copy_cells {P : Program} (w : World) (dT sT ty elem : TypeId) (g o dLen dCap : Nat) (a : Addr) (sLen sCap : Nat) (cur : Array Value) (t : TypeId) (cs : List Value) (size m : Nat)
    (hu : P.underlying dT = some (.slice elem)) (hs : (P.info? elem).map (·.size) = some size)
    (hg : w.heap[g]? = some (.cells cur t (0, 0))) (hm : Nat.min sLen dLen = m) (hn : cs.length = m * size)
    (hsrc : ∀ j v, cs[j]? = some v → w.cell? (a.add j) = some v) (hfit : o + cs.length ≤ cur.size) (h1 : ∀ v ∈ cs, v.oneCell' = true) :
    (Builtin.copy_ #[dT, sT] ty #[.slice (some ⟨g, o, none⟩) dLen dCap, .slice (some a) sLen sCap]).run P w =
      .ok (goInt m) (w.setRow g (cur.toList.take o ++ cs ++ cur.toList.drop (o + cs.length)).toArray) := by
  have hl := run_loadCells_list (P := P) w a cs hsrc
  have hst := run_storeCells_at P g o t cs 0 cur w hg (by simpa using hfit) h1
  cases hq : P.info? elem with
  | none => simp [hq] at hs
  | some i =>
    have hi : i.size = size := by simpa [hq] using hs
    rw [hn] at hl
    simp [Builtin.copy_, run_underlying hu, Builtin.lenOf, Builtin.firstCells, sizeOf, typeInfo, hq, hi, hm, hl, hst]

theorem run_copy_zero {P : Program} (w : World) (dT sT ty elem : TypeId) (dp sp : Option Addr) (dLen dCap sLen sCap : Nat) (hu : P.underlying dT = some (.slice elem)) (hs : ((P.info? elem).map (·.size)).isSome = true) (hn : Nat.min sLen dLen = 0) :
    (Builtin.copy_ #[dT, sT] ty #[.slice dp dLen dCap, .slice sp sLen sCap]).run P w = .ok (goInt 0) w := by
  cases hq : P.info? elem with
  | none => simp [hq] at hs
  | some i => cases dp <;> cases sp <;> simp [Builtin.copy_, run_underlying hu, Builtin.lenOf, Builtin.firstCells, sizeOf, typeInfo, hq, hn, storeCells, loadCells, loadCellsFrom]

theorem kept_setRow (w : World) (g : Nat) (cs : Array Value) : Kept (fun k => k = g) w (w.setRow g cs) :=
  ⟨rfl, rfl, rfl, by simp, fun k _ hk => setRow_other w g k cs hk⟩

/-- The copy as a law for the walk: the place and the cells are given by the prover. -/
theorem wpList_copy_cells {P : Program} {w : World} {ops : Array Oper} {rest : List Oper} {o : Oper} {a : Act} {Q : Exit → Act → World → Prop} (hgd : o.guard = none) (d s : Operand) (dT sT : TypeId)
    (ho : o.op = .call { callee := .builtin .copy, args := #[d, s], argTypes := #[dT, sT] }) (elem : TypeId) (hu : P.underlying dT = some (.slice elem)) (size : Nat) (hsz : (P.info? elem).map (·.size) = some size)
    (dp sp : Option Addr) (dLen dCap sLen sCap : Nat) (hd : a.eval d = .slice dp dLen dCap) (hs : a.eval s = .slice sp sLen sCap)
    (g off : Nat) (cur : Array Value) (t : TypeId) (hg : w.heap[g]? = some (.cells cur t (0, 0))) (m : Nat) (hm : Nat.min sLen dLen = m) (cs : List Value) (hn : cs.length = m * size)
    (hpos : 0 < m → dp = some ⟨g, off, none⟩ ∧ ∃ ad, sp = some ad ∧ ∀ j v, cs[j]? = some v → w.cell? (ad.add j) = some v)
    (hfit : off + cs.length ≤ cur.size) (h1 : ∀ v ∈ cs, v.oneCell' = true)
    (h : ∀ w', Hid (w'.heap[g]? = some (.cells (cur.toList.take off ++ cs ++ cur.toList.drop (off + cs.length)).toArray t (0, 0))) → Kept (fun k => k = g) w w' → wpList P ops Q rest (a.put o.dst (goInt m)) w') :
    wpList P ops Q (o :: rest) a w := by
  by_cases h0 : m = 0
  · subst h0
    obtain rfl : cs = [] := List.eq_nil_of_length_eq_zero (by simpa using hn)
    refine wpList_plain hgd fun K hK => ?_
    have hrun := run_copy_zero (P := P) w dT sT o.type elem dp sp dLen dCap sLen sCap hu (by rw [hsz]; rfl) hm
    unfold Oper.wp
    simp [execOp, ho, resolve, invoke, builtin, hd, hs, hrun, Result.andThen]
    exact hK _ _ (h w (show _ = _ by simpa using hg) (Kept.refl _ _))
  · obtain ⟨rfl, ad, rfl, hsrc⟩ := hpos (by omega)
    refine wpList_plain hgd fun K hK => ?_
    have hrun := run_copy_cells (P := P) w dT sT o.type elem g off dLen dCap ad sLen sCap cur t cs size m hu hsz hg hm hn hsrc hfit h1
    unfold Oper.wp
    simp [execOp, ho, resolve, invoke, builtin, hd, hs, hrun, Result.andThen]
    exact hK _ _ (h _ (show _ = _ by simpa using setRow_heap w g _ _ t _ hg) (by simpa using kept_setRow w g _))


theorem cell_lt {w : World} {a : Addr} {v : Value} (h : w.cell? a = some v) : a.block < w.heap.size := World.block_lt_of_cell? w a h

theorem Strs.below {w w' : World} {ao : Option Addr} {n : Nat} {S : Nat → ByteArray} (h : Strs w ao n S) (hb : Below w.heap.size w w') : Strs w' ao n S := by
  intro hn
  obtain ⟨b, off, rfl, hc⟩ := h hn
  refine ⟨b, off, rfl, fun i hi => ?_⟩
  rw [hb.cell (p := ⟨b, off + i, none⟩) (cell_lt (hc i hi) :)]
  exact hc i hi

theorem below_drewN (w : World) (q : Nat) : Below w.heap.size w (w.drewN q) := ⟨rfl, rfl, rfl, Nat.le_refl _, fun _ _ => rfl⟩

theorem Try.size9 : (Try.prog.info? 9).map (·.size) = some 1 := by kernel_rfl

theorem Try.info9 : (Try.prog.info? 9).map (fun i => (i.zero, i.size, i.bytes)) = some (some (.string ⟨#[]⟩), 1, 16) := by kernel_rfl

def zeros (z : Value) (n : Nat) : Array Value := (List.replicate n z).toArray

theorem make9 (n : Nat) (hc : n ≤ 1048577) (w : World) :
    (Instr.makeSlice 22 (.int .i64 (n : Int)) (.int .i64 (n : Int))).run Try.prog w = .ok (.slice (some ⟨w.heap.size, 0, none⟩) n n) (w.alloc (.cells (zeros (.string ⟨#[]⟩) n) 9)) := by
  obtain ⟨i, hi, hz, hs, hb⟩ := info_parts Try.info9
  have := run_make (P := Try.prog) w 22 9 i _ Try.underlying22 hi hz .i64 .i64 n n (by omega) (by omega) (by rw [hb]; omega) (by omega)
  rw [hs] at this
  have e : madeCells #[.string ⟨#[]⟩] n = zeros (.string ⟨#[]⟩) n := by rw [zeros, ← toList_madeCells_one]
  simpa [Value.cells, e] using this

/-- A row that the call itself has made: block g, n cells of type 9, none frozen. -/
def Mine (w : World) (g n : Nat) (V : Nat → ByteArray) : Prop := ∃ cur : Array Value, w.heap[g]? = some (.cells cur 9 (0, 0)) ∧ cur.size = n ∧ ∀ i, i < n → cur[i]? = some (.string (V i))

theorem mine_made (w : World) (n : Nat) : Mine (w.alloc (.cells (zeros (.string ⟨#[]⟩) n) 9)) w.heap.size n (fun _ => ⟨#[]⟩) :=
  ⟨zeros (.string ⟨#[]⟩) n, heap_alloc_new w _, by simp [zeros], fun i hi => by simp [zeros, hi]⟩

theorem Mine.lt {w : World} {g n : Nat} {V : Nat → ByteArray} (h : Mine w g n V) : g < w.heap.size := by
  obtain ⟨cur, hg, _⟩ := h
  exact (Array.getElem?_eq_some_iff.1 hg).1

theorem Mine.cell {w : World} {g n : Nat} {V : Nat → ByteArray} (h : Mine w g n V) (i : Nat) (hi : i < n) : w.cell? ⟨g, i, none⟩ = some (.string (V i)) := by
  obtain ⟨cur, hg, _, hc⟩ := h
  rw [cell_of_row w g i cur 9 _ hg]; exact hc i hi

theorem Mine.frozen {w : World} {g n : Nat} {V : Nat → ByteArray} (h : Mine w g n V) (i : Nat) : w.frozen? ⟨g, i, none⟩ = false := by
  obtain ⟨cur, hg, _⟩ := h
  exact frozen_of_row w g i cur 9 hg

theorem Mine.strs {w : World} {g n : Nat} {V : Nat → ByteArray} (h : Mine w g n V) : Strs w (some ⟨g, 0, none⟩) n V :=
  fun _ => ⟨g, 0, rfl, fun i hi => by rw [Nat.zero_add]; exact h.cell i hi⟩

theorem Mine.set {w : World} {g n : Nat} {V : Nat → ByteArray} (h : Mine w g n V) (i : Nat) (hi : i < n) (x : ByteArray) : Mine (w.setCell ⟨g, i, none⟩ (.string x)) g n (fun j => if j = i then x else V j) := by
  obtain ⟨cur, hg, hs, hc⟩ := h
  refine ⟨cur.setIfInBounds i (.string x), heap_setCell_same w g i cur 9 _ hg, by simpa using hs, fun j hj => ?_⟩
  rw [Array.getElem?_setIfInBounds]
  by_cases e : i = j
  · subst e; simp [hs, hi]
  · have e' : ¬ j = i := fun q => e q.symm
    simp only [if_neg e, if_neg e']; exact hc j hj

theorem Mine.congr {w : World} {g n : Nat} {V V' : Nat → ByteArray} (h : Mine w g n V) (e : ∀ i, i < n → V i = V' i) : Mine w g n V' := by
  obtain ⟨cur, hg, hs, hc⟩ := h
  exact ⟨cur, hg, hs, fun i hi => by rw [hc i hi, e i hi]⟩

theorem Mine.below {w w' : World} {g n B : Nat} {V : Nat → ByteArray} (h : Mine w g n V) (hb : Below B w w') (hg : g < B) : Mine w' g n V := by
  obtain ⟨cur, hh, hs, hc⟩ := h
  exact ⟨cur, (hb.block g hg).trans hh, hs, hc⟩

/-- The cells of a row of strings. -/
def rowOf (S : Nat → ByteArray) (n : Nat) : List Value := (List.range n).map fun i => .string (S i)

theorem rowOf_length (S : Nat → ByteArray) (n : Nat) : (rowOf S n).length = n := by simp [rowOf]

theorem rowOf_get (S : Nat → ByteArray) (n j : Nat) (v : Value) (h : (rowOf S n)[j]? = some v) : j < n ∧ v = .string (S j) := by
  have hj := (List.getElem?_eq_some_iff.1 h).1
  rw [rowOf_length] at hj
  have : (rowOf S n)[j]? = some (.string (S j)) := by simp [rowOf, hj]
  rw [this] at h
  exact ⟨hj, by simpa using h.symm⟩

theorem rowOf_one (S : Nat → ByteArray) (n : Nat) : ∀ v ∈ rowOf S n, v.oneCell' = true := by
  intro v hv
  simp only [rowOf, List.mem_map] at hv
  obtain ⟨i, _, rfl⟩ := hv
  rfl

/-- A WHOLE COPY INTO A ROW OF THE CALL's OWN, as a step of the walk. -/
theorem wpList_clone {w : World} {ops : Array Oper} {rest : List Oper} {o : Oper} {a : Act} {Q : Exit → Act → World → Prop} (hgd : o.guard = none) (d s : Operand)
    (ho : o.op = .call { callee := .builtin .copy, args := #[d, s], argTypes := #[22, 22] })
    (g n : Nat) (sp : Option Addr) (sCap : Nat) (S : Nat → ByteArray) (hd : a.eval d = .slice (some ⟨g, 0, none⟩) n n) (hs : a.eval s = .slice sp n sCap)
    (V : Nat → ByteArray) (hm : Mine w g n V) (hst : Strs w sp n S)
    (h : ∀ w', Hid (Mine w' g n S) → Below g w w' → wpList Try.prog ops Q rest (a.put o.dst (goInt n)) w') :
    wpList Try.prog ops Q (o :: rest) a w := by
  have hglt := hm.lt
  obtain ⟨cur, hg, hcs, hc⟩ := hm
  refine wpList_copy_cells hgd d s 22 22 ho 9 Try.underlying22 1 Try.size9 _ _ _ _ _ _ hd hs g 0 cur 9 hg n (Nat.min_self n) (rowOf S n) (by rw [rowOf_length]; omega) ?_ (by rw [rowOf_length]; omega) (rowOf_one S n) ?_
  · intro hn
    obtain ⟨b, off, rfl, hc2⟩ := hst hn
    refine ⟨rfl, _, rfl, fun j v hv => ?_⟩
    obtain ⟨hj, rfl⟩ := rowOf_get S n j v hv
    rw [Addr.add_lit]; exact hc2 j hj
  · intro w' hg' hk
    refine h w' ⟨_, hg'.out, ?_, fun i hi => ?_⟩ (hk.below g (Nat.le_of_lt hglt) (fun k hk2 e => by omega))
    · simp [rowOf_length]; omega
    · simp only [List.take_zero, List.nil_append, List.getElem?_toArray]
      rw [List.getElem?_append_left (by rw [rowOf_length]; exact hi)]
      simp [rowOf, hi]

end Go.Proofs.Qxb6630834a
