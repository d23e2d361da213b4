import Derived.Test.Qxb6630804aProg
import Derived.Test.Qxb6630804aPlain
import Derived.WalkKit
import Derived.WalkSpells
import Derived.WalkLawsBesides
import Derived.BigQuiet
import Derived.Deep.CutBlock
import Derived.Lib.SliceRun
namespace Go.Proofs.Qxb6630804a
open Go.RowKit

theorem hide {p : Prop} (h : p) : Hid p := h

theorem bytesA_any (x0 x1 : Int) (ao : Option Addr) (n cap : Nat) (x3 x4 x5 x6 : Int) (w : World) (hn : n ≤ maxLen) :
    Calls Try.prog 5 #[.int .i64 x0, .int .i64 x1, .slice ao n cap, .int .i64 x3, .int .i64 x4, .int .i64 x5, .int .i64 x6] w fun e w' => e = .returned (.bool (decide (n ≤ 1048576))) ∧ w' = w := by
  unfold maxLen at hn
  by_cases h : (1048576 : Int) < n
  · go_enter Try.func5, Try.ntmps5
    go_wp2
    go_ret
    exact ⟨by simp; omega, rfl⟩
  · go_enter Try.func5, Try.ntmps5
    go_wp2
    go_ret
    exact ⟨by simp; omega, rfl⟩

theorem bytesB_any (x0 x1 : Int) (ao : Option Addr) (n cap : Nat) (x3 x4 x5 x6 : Int) (w : World) (hn : n ≤ maxLen) :
    Calls Try.prog 9 #[.int .i64 x0, .int .i64 x1, .slice ao n cap, .int .i64 x3, .int .i64 x4, .int .i64 x5, .int .i64 x6] w fun e w' => e = .returned (.bool (decide (n ≤ 1048576))) ∧ w' = w := by
  unfold maxLen at hn
  by_cases h : (1048576 : Int) < n
  · go_enter Try.func9, Try.ntmps9
    go_wp2
    go_ret
    exact ⟨by simp; omega, rfl⟩
  · go_enter Try.func9, Try.ntmps9
    go_wp2
    go_ret
    exact ⟨by simp; omega, rfl⟩

theorem newRec_any (x0 x1 : Int) (ao : Option Addr) (n c : Nat) (x3 x4 x5 x6 : Int) (w : World) :
    Calls Try.prog 8 #[.int .i64 x0, .int .i64 x1, .slice ao n c, .int .i64 x3, .int .i64 x4, .int .i64 x5, .int .i64 x6] w fun e w' =>
      e = .returned (.pointer (some ⟨w.heap.size, 0, none⟩)) ∧ w' = w.alloc (.cells #[.int .i64 x0, .int .i64 x1, .slice ao n c, .int .i64 x3, .int .i64 x4, .int .i64 x5, .int .i64 x6] 30) := by
  go_enter Try.func8, Try.ntmps8
  go_wp2
  go_ret
  exact ⟨rfl, rfl⟩

/-- A row of numbers: n cells at ⟨b, off⟩. -/
def IsInts (w : World) (b off n : Nat) (f : Nat → Int) : Prop := ∀ i, i < n → w.cell? ⟨b, off + i, none⟩ = some (.int .i64 (f i))

theorem Try.info2 : (Try.prog.info? 2).map (fun i => (i.zero, i.size, i.bytes)) = some (some (.int .i64 0), 1, 8) := by kernel_rfl

def zeros (z : Value) (n : Nat) : Array Value := (List.replicate n z).toArray

theorem make2 (n : Nat) (hc : n ≤ 1048577) (w : World) :
    (Instr.makeSlice 22 (.int .i64 (n : Int)) (.int .i64 (n : Int))).run Try.prog w = .ok (.slice (some ⟨w.heap.size, 0, none⟩) n n) (w.alloc (.cells (zeros (.int .i64 0) n) 2)) := by
  obtain ⟨i, hi, hz, hs, hb⟩ := info_parts Try.info2
  have := run_make (P := Try.prog) w 22 2 i _ Try.underlying22 hi hz .i64 .i64 n n (by omega) (by omega) (by rw [hb]; omega) (by omega)
  rw [hs] at this
  have e : madeCells #[.int .i64 0] n = zeros (.int .i64 0) n := by rw [zeros, ← toList_madeCells_one]
  simpa [Value.cells, e] using this

/-- A row that the call itself has made: block g, n cells of type 2, none frozen, cell i (i < n) holding what 'v i' says. -/
def Mine (w : World) (g n : Nat) (v : Nat → Int) : Prop := ∃ cur : Array Value, w.heap[g]? = some (.cells cur 2 (0, 0)) ∧ cur.size = n ∧ ∀ i, i < n → cur[i]? = some (.int .i64 (v i))

theorem mine_made (w : World) (n : Nat) : Mine (w.alloc (.cells (zeros (.int .i64 0) n) 2)) w.heap.size n (fun _ => 0) :=
  ⟨zeros (.int .i64 0) n, heap_alloc_new w _, by simp [zeros], fun i hi => by simp [zeros, hi]⟩

theorem Mine.lt {w : World} {g n : Nat} {v : Nat → Int} (h : Mine w g n v) : g < w.heap.size := by
  obtain ⟨cur, hg, _⟩ := h
  exact (Array.getElem?_eq_some_iff.1 hg).1

theorem Mine.cell {w : World} {g n : Nat} {v : Nat → Int} (h : Mine w g n v) (i : Nat) (hi : i < n) : w.cell? ⟨g, i, none⟩ = some (.int .i64 (v i)) := by
  obtain ⟨cur, hg, _, hc⟩ := h
  rw [cell_of_row w g i cur 2 _ hg]; exact hc i hi

theorem Mine.frozen {w : World} {g n : Nat} {v : Nat → Int} (h : Mine w g n v) (i : Nat) : w.frozen? ⟨g, i, none⟩ = false := by
  obtain ⟨cur, hg, _⟩ := h
  exact frozen_of_row w g i cur 2 hg

theorem Mine.set {w : World} {g n : Nat} {v : Nat → Int} (h : Mine w g n v) (i : Nat) (hi : i < n) (x : Int) : Mine (w.setCell ⟨g, i, none⟩ (.int .i64 x)) g n (fun j => if j = i then x else v j) := by
  obtain ⟨cur, hg, hs, hc⟩ := h
  refine ⟨cur.setIfInBounds i (.int .i64 x), heap_setCell_same w g i cur 2 _ hg, by simpa using hs, fun j hj => ?_⟩
  rw [Array.getElem?_setIfInBounds]
  by_cases e : i = j
  · subst e; simp [hs, hi]
  · have e' : ¬ j = i := fun q => e q.symm
    simp only [if_neg e, if_neg e']; exact hc j hj

theorem Mine.congr {w : World} {g n : Nat} {v v' : Nat → Int} (h : Mine w g n v) (e : ∀ i, i < n → v i = v' i) : Mine w g n v' := by
  obtain ⟨cur, hg, hs, hc⟩ := h
  exact ⟨cur, hg, hs, fun i hi => by rw [hc i hi, e i hi]⟩

theorem Mine.below {w w' : World} {g n B : Nat} {v : Nat → Int} (h : Mine w g n v) (hb : Below B w w') (hg : g < B) : Mine w' g n v := by
  obtain ⟨cur, hh, hs, hc⟩ := h
  exact ⟨cur, (hb.block g hg).trans hh, hs, hc⟩

theorem clone_any (b off n cap : Nat) (f : Nat → Int) (w : World) (hn : n ≤ 4096) (hc : IsInts w b off n f) (hbl : b < w.heap.size) :
    Calls Try.prog 6 #[.slice (some ⟨b, off, none⟩) n cap] w fun e w' => e = .returned (.slice (some ⟨w.heap.size, 0, none⟩) n n) ∧ Mine w' w.heap.size n f ∧ Below w.heap.size w w' := by
  have hmk := fun wx => make2 n (by omega) wx
  have q22 : ∀ (w : World) (a : Option Addr) (n c n' c' : Nat), (binOp .eql 22 (.slice a n c) (.slice none n' c')).run Try.prog w = .ok (.bool a.isNone) w := fun w a n c n' c' => Lib.run_eql_slice_nil w 22 2 a n c n' c' Try.underlying22
  have H0 := hide (mine_made w n)
  have HC := hide hc
  clear hc
  go_enter Try.func6, Try.ntmps6
  go_wp2
  go_loopw [4] (fun i wr => ∃ k : Nat, k ≤ n ∧ i = .int .i64 k ∧ wr.heap.size = w.heap.size + 1 ∧ Mine wr w.heap.size n (fun j => if j < k then f j else 0) ∧ Below w.heap.size w wr) (fun i _ => n - (intOf i).toNat)
  case atStart => exact ⟨0, Nat.zero_le _, rfl, by simp, H0.out.congr (fun i _ => by simp), (Below.refl _ _).alloc (Nat.le_refl _) _⟩
  case round =>
    obtain ⟨k, hk, rfl, hsz, hm, hbel⟩ := hrel
    by_cases hlt : k < n
    · have c1 : wr.cell? ⟨b, off + k, none⟩ = some (.int .i64 (f k)) := (hbel.cell (p := ⟨b, off + k, none⟩) hbl).trans (HC.out k hlt)
      have c2 := hm.cell k hlt
      have c3 : ∀ i, wr.frozen? ⟨w.heap.size, i, none⟩ = false := fun i => hm.frozen i
      have hm2 := (hm.set k hlt (f k)).congr (v' := fun j => if j < k + 1 then f j else 0) (fun i _ => by
        by_cases e : i = k
        · simp [e]
        · by_cases e2 : i < k
          · simp [e, e2, show i < k + 1 by omega]
          · simp [e, e2, show ¬ i < k + 1 by omega])
      generalize f k = x at *
      generalize (if k < k then x else 0) = y at c2
      have HM2 := hide hm2
      clear hm2 hm
      go_wp2
      go_roundw
      case rel => exact ⟨k + 1, by omega, by go_num, by simp [hsz], HM2.out, hbel.setCell (Nat.le_refl _) _⟩
      case measure => simp [intOf]; omega
    · have hkn : k = n := by omega
      subst hkn
      go_wp2
      go_ret
      exact ⟨rfl, hm.congr (fun i hi => by simp [hi]), hbel⟩
end Go.Proofs.Qxb6630804a
