import Derived.Test.Qxb6630764aWalksA
import Derived.Test.Qxb6630764aBase
import Derived.StillTailTactics
import Derived.Lib.QuietBelow
namespace Go.Proofs.Qxb6630764a
open Go.RowKit

theorem Try.info42 : (Try.prog.info? 42).map (fun i => (i.zero, i.size, i.bytes)) = some (some (.agg #[.int .i64 0, .int .i32 0]), 2, 16) := by kernel_rfl

/-- 'make([]instant, n, c)'. -/
theorem make42 (n c : Nat) (h : n ≤ c) (hc : c ≤ 1048576) (w : World) :
    (Instr.makeSlice 40 (.int .i64 (n : Int)) (.int .i64 (c : Int))).run Try.prog w = .ok (.slice (some ⟨w.heap.size, 0, none⟩) n c) (w.alloc (.cells (madeCells #[.int .i64 0, .int .i32 0] (c * 2)) 42)) := by
  obtain ⟨i, hi, hz, hs, hb⟩ := info_parts Try.info42
  have := run_make (P := Try.prog) w 40 42 i _ Try.underlying40 hi hz .i64 .i64 n c (by omega) (by omega) (by rw [hb]; omega) (by omega)
  rw [hs] at this
  simpa [Value.cells] using this

theorem owns_made (w : World) (n c : Nat) (h : n ≤ c) (hc : c ≤ 1048576) (t : TypeId) :
    (w.alloc (.cells (madeCells #[.int .i64 0, .int .i32 0] (c * 2)) t)).ownsRow w.heap.size t 2 (.slice (some ⟨w.heap.size, 0, none⟩) n c) n (flat (List.replicate n (0, 0))) := by
  refine owns_mk (heap_alloc_new w _) (Nat.le_refl _) h (by unfold maxLen; omega) (size_madeCells _ _) ?_
  rw [← flat_replicate, ← flat_take, List.take_replicate, Nat.min_eq_left h]

theorem newLog_any (rs rn hd : Int) (gs gn n cs cn sp : Nat) (xs : List (Int × Int)) (w : World) (hx : xs.length = n) (hn : n ≤ 65536) (hsp : sp ≤ 65536)
    (hs : ∀ i, i < n → w.cell? ⟨gs, i, none⟩ = some (.int .i64 (xs.getD i (0, 0)).1)) (hns : ∀ i, i < n → w.cell? ⟨gn, i, none⟩ = some (.int .i32 (xs.getD i (0, 0)).2)) :
    Calls Try.prog 8 #[.int .i64 rs, .int .i32 rn, .int .i32 hd, .slice (some ⟨gs, 0, none⟩) n cs, .slice (some ⟨gn, 0, none⟩) n cn, .int .i64 sp] w fun e w' =>
      e = .returned (.pointer (some ⟨w.heap.size + 1, 0, none⟩)) ∧ w'.heap[w.heap.size + 1]? = some (.cells #[.int .i64 rs, .int .i32 rn, .int .i32 hd, .slice (some ⟨w.heap.size, 0, none⟩) n (n + sp)] 44 (0, 0)) ∧
      w'.ownsRow w.heap.size 42 2 (.slice (some ⟨w.heap.size, 0, none⟩) n (n + sp)) n (flat xs) ∧ Below w.heap.size w w' := by
  have hmk := fun wx => make42 n (n + sp) (by omega) (by omega) wx
  have ec : ((n + sp : Nat) : Int) = (n : Int) + (sp : Int) := by omega
  rw [ec] at hmk
  clear ec
  go_enter Try.func8, Try.ntmps8
  go_wp2
  go_loopw [14] (fun i wr => ∃ k : Nat, k ≤ n ∧ i = .int .i64 k ∧ wr.heap.size = w.heap.size + 1 ∧ wr.ownsRow w.heap.size 42 2 (.slice (some ⟨w.heap.size, 0, none⟩) n (n + sp)) n (flat (xs.take k ++ List.replicate (n - k) (0, 0))) ∧ Below w.heap.size w wr) (fun i _ => n - (intOf i).toNat)
  case atStart => exact ⟨0, Nat.zero_le _, rfl, by simp, by simpa using owns_made w n (n + sp) (by omega) (by omega) 42, (Below.refl _ _).alloc (Nat.le_refl _) _⟩
  case round =>
    obtain ⟨k, hk, rfl, hsz, hown, hbel⟩ := hrel
    by_cases hlt : k < n
    · have hlen : (xs.take k ++ List.replicate (n - k) (0, 0)).length = n := by simp; omega
      obtain ⟨c3, c4⟩ := inst_at hown hlen k hlt
      have f3 : ∀ j, wr.frozen? ⟨w.heap.size, j, none⟩ = false := fun j => hown.frozenAt j
      have c1 : wr.cell? ⟨gs, k, none⟩ = some (.int .i64 (xs.getD k (0, 0)).1) := (hbel.cell (block_lt_of_cell (hs k hlt))).trans (hs k hlt)
      have c2 : wr.cell? ⟨gn, k, none⟩ = some (.int .i32 (xs.getD k (0, 0)).2) := (hbel.cell (block_lt_of_cell (hns k hlt))).trans (hns k hlt)
      generalize hp : xs.getD k (0, 0) = p at *
      generalize (xs.take k ++ List.replicate (n - k) (0, 0)).getD k (0, 0) = q at *
      have R := inst_set hown k p
      have HR := hide R
      have Hown := hide hown
      clear R hown
      have Hp := hide hp
      clear hp
      go_wp2
      go_region
      all_goals go_wp2
      have e := fill_set xs (0, 0) (0, 0) k n hx hlt
      rw [Hp.out] at e
      exact ⟨⟨k + 1, by omega, by go_num, by simp [hsz], by rw [← e]; exact HR.out.drew, ((hbel.setCell (Nat.le_refl _) _).setCell (Nat.le_refl _) _).drew⟩, by simp [intOf]; omega⟩
    · have hkn : k = n := by omega
      subst hkn
      have e : xs.take k ++ List.replicate (k - k) (0, 0) = xs := by rw [List.take_of_length_le (by omega)]; simp
      rw [e] at hown
      clear e
      go_wp2
      go_ret
      exact ⟨rfl, by rw [← hsz]; exact heap_alloc_new wr _, hown.alloc _, hbel.alloc (by omega) _⟩

theorem newLog_nil (rs rn hd : Int) (w : World) :
    Calls Try.prog 8 #[.int .i64 rs, .int .i32 rn, .int .i32 hd, .slice none 0 0, .slice none 0 0, .int .i64 0] w fun e w' =>
      e = .returned (.pointer (some ⟨w.heap.size + 1, 0, none⟩)) ∧ w'.heap[w.heap.size + 1]? = some (.cells #[.int .i64 rs, .int .i32 rn, .int .i32 hd, .slice (some ⟨w.heap.size, 0, none⟩) 0 0] 44 (0, 0)) ∧
      w'.ownsRow w.heap.size 42 2 (.slice (some ⟨w.heap.size, 0, none⟩) 0 0) 0 (flat []) ∧ Below w.heap.size w w' := by
  have hmk : ∀ wx : World, (Instr.makeSlice 40 (.int .i64 0) (.int .i64 0)).run Try.prog wx = .ok (.slice (some ⟨wx.heap.size, 0, none⟩) 0 0) (wx.alloc (.cells (madeCells #[.int .i64 0, .int .i32 0] (0 * 2)) 42)) := fun wx => make42 0 0 (by omega) (by omega) wx
  have Hown := hide (owns_made w 0 0 (by omega) (by omega) 42)
  generalize madeCells #[.int .i64 0, .int .i32 0] (0 * 2) = mc at *
  go_enter Try.func8, Try.ntmps8
  go_wp2
  refine wp_loop_rounds 1 ?_
  rw [rounds_succ]
  go_wp2
  go_ret
  exact ⟨rfl, heap_alloc2_new w _ _, Hown.out.alloc _, ((Below.refl _ _).alloc (Nat.le_refl _) _).alloc (by simp) _⟩

theorem Try.info2 : (Try.prog.info? 2).map (fun i => (i.zero, i.size, i.bytes)) = some (some (.int .i64 0), 1, 8) := by kernel_rfl
theorem Try.info21 : (Try.prog.info? 21).map (fun i => (i.zero, i.size, i.bytes)) = some (some (.int .i32 0), 1, 4) := by kernel_rfl

/-- A new row of n zeros. -/
def zeros (z : Value) (n : Nat) : Array Value := (List.replicate n z).toArray

theorem make2 (n : Nat) (hc : n ≤ 1048577) (w : World) :
    (Instr.makeSlice 27 (.int .i64 (n : Int)) (.int .i64 (n : Int))).run Try.prog w = .ok (.slice (some ⟨w.heap.size, 0, none⟩) n n) (w.alloc (.cells (zeros (.int .i64 0) n) 2)) := by
  obtain ⟨i, hi, hz, hs, hb⟩ := info_parts Try.info2
  have := run_make (P := Try.prog) w 27 2 i _ Try.underlying27 hi hz .i64 .i64 n n (by omega) (by omega) (by rw [hb]; omega) (by omega)
  rw [hs] at this
  have e : madeCells #[.int .i64 0] n = zeros (.int .i64 0) n := by rw [zeros, ← toList_madeCells_one]
  simpa [Value.cells, e] using this

theorem make21 (n : Nat) (hc : n ≤ 1048577) (w : World) :
    (Instr.makeSlice 28 (.int .i64 (n : Int)) (.int .i64 (n : Int))).run Try.prog w = .ok (.slice (some ⟨w.heap.size, 0, none⟩) n n) (w.alloc (.cells (zeros (.int .i32 0) n) 21)) := by
  obtain ⟨i, hi, hz, hs, hb⟩ := info_parts Try.info21
  have := run_make (P := Try.prog) w 28 21 i _ Try.underlying28 hi hz .i64 .i64 n n (by omega) (by omega) (by rw [hb]; omega) (by omega)
  rw [hs] at this
  have e : madeCells #[.int .i32 0] n = zeros (.int .i32 0) n := by rw [zeros, ← toList_madeCells_one]
  simpa [Value.cells, e] using this

theorem owns_zeros (w : World) (z : Value) (n : Nat) (t : TypeId) (hc : n ≤ 1048577) :
    (w.alloc (.cells (zeros z n) t)).ownsRow w.heap.size t 1 (.slice (some ⟨w.heap.size, 0, none⟩) n n) n (List.replicate n z) :=
  owns_mk (heap_alloc_new w _) (Nat.le_refl _) (Nat.le_refl _) (by unfold maxLen; omega) (by simp [zeros]) (by simp [zeros])

theorem owns_base {w : World} {base base' : Nat} {e : TypeId} {size : Nat} {v : Value} {m : Nat} {xs : List Value} (h : w.ownsRow base e size v m xs) (hb : base' ≤ base) : w.ownsRow base' e size v m xs := by
  refine ⟨h.1, ?_⟩
  rcases h.2 with h2 | ⟨g, cap, cur, hv, hg, r⟩
  · exact .inl h2
  · exact .inr ⟨g, cap, cur, hv, by omega, r⟩

def secs (xs : List (Int × Int)) : List Value := xs.map fun p => .int .i64 p.1
def nsecs (xs : List (Int × Int)) : List Value := xs.map fun p => .int .i32 p.2

theorem secs_getD (xs : List (Int × Int)) (k : Nat) (h : k < xs.length) (d : Value) : (secs xs).getD k d = .int .i64 (xs.getD k (0, 0)).1 := by
  simp [secs, List.getD, h]
theorem nsecs_getD (xs : List (Int × Int)) (k : Nat) (h : k < xs.length) (d : Value) : (nsecs xs).getD k d = .int .i32 (xs.getD k (0, 0)).2 := by
  simp [nsecs, List.getD, h]

theorem fields_any (B L g n cap : Nat) (rs rn hd : Int) (xs : List (Int × Int)) (w : World) (hx : xs.length = n) (hn : n ≤ 1048577)
    (hL : w.heap[L]? = some (.cells #[.int .i64 rs, .int .i32 rn, .int .i32 hd, .slice (some ⟨g, 0, none⟩) n cap] 44 (0, 0)))
    (hown : w.ownsRow B 42 2 (.slice (some ⟨g, 0, none⟩) n cap) n (flat xs)) :
    Calls Try.prog 10 #[.pointer (some ⟨L, 0, none⟩)] w fun e w' =>
      e = .returned (.tuple #[.int .i64 rs, .int .i32 rn, .int .i32 hd, .slice (some ⟨w.heap.size, 0, none⟩) n n, .slice (some ⟨w.heap.size + 1, 0, none⟩) n n]) ∧
      w'.ownsRow w.heap.size 2 1 (.slice (some ⟨w.heap.size, 0, none⟩) n n) n (secs xs) ∧ w'.ownsRow w.heap.size 21 1 (.slice (some ⟨w.heap.size + 1, 0, none⟩) n n) n (nsecs xs) ∧ Below w.heap.size w w' := by
  have hmk1 := fun wx => make2 n hn wx
  have hmk2 := fun wx => make21 n hn wx
  have hLlt : L < w.heap.size := (Array.getElem?_eq_some_iff.1 hL).1
  have hglt : g < w.heap.size := (owns_lt hown).2
  have k0 : w.cell? ⟨L, 0, none⟩ = some (.int .i64 rs) := by rw [cell_of_row w L 0 _ 44 _ hL]; rfl
  have k1 : w.cell? ⟨L, 1, none⟩ = some (.int .i32 rn) := by rw [cell_of_row w L 1 _ 44 _ hL]; rfl
  have k2 : w.cell? ⟨L, 2, none⟩ = some (.int .i32 hd) := by rw [cell_of_row w L 2 _ 44 _ hL]; rfl
  have k3 : w.cell? ⟨L, 3, none⟩ = some (.slice (some ⟨g, 0, none⟩) n cap) := by rw [cell_of_row w L 3 _ 44 _ hL]; rfl
  have HL := hide hL
  clear hL
  have a1 := owns_zeros w (.int .i64 0) n 2 hn
  have a2 := owns_zeros (w.alloc (.cells (zeros (.int .i64 0) n) 2)) (.int .i32 0) n 21 hn
  have HA1 := hide (a1.alloc (.cells (zeros (.int .i32 0) n) 21))
  have HA2 := hide a2
  clear a1 a2
  go_enter Try.func10, Try.ntmps10
  go_wp2
  go_loopw [9] (fun i wr => ∃ k : Nat, k ≤ n ∧ i = .int .i64 k ∧ wr.heap.size = w.heap.size + 1 + 1 ∧ wr.ownsRow w.heap.size 2 1 (.slice (some ⟨w.heap.size, 0, none⟩) n n) n ((secs xs).take k ++ List.replicate (n - k) (.int .i64 0)) ∧
    wr.ownsRow w.heap.size 21 1 (.slice (some ⟨w.heap.size + 1, 0, none⟩) n n) n ((nsecs xs).take k ++ List.replicate (n - k) (.int .i32 0)) ∧ Below w.heap.size w wr) (fun i _ => n - (intOf i).toNat)
  case atStart => exact ⟨0, Nat.zero_le _, rfl, by simp, by simpa using HA1.out, by simpa using owns_base HA2.out (by simp), ((Below.refl _ _).alloc (Nat.le_refl _) _).alloc (by simp) _⟩
  case round =>
    obtain ⟨k, hk, rfl, hsz, ho1, ho2, hbel⟩ := hrel
    have j0 : ∀ o, wr.cell? ⟨L, o, none⟩ = w.cell? ⟨L, o, none⟩ := fun o => hbel.cell (p := ⟨L, o, none⟩) hLlt
    by_cases hlt : k < n
    · have f1 : ∀ j, wr.frozen? ⟨w.heap.size, j, none⟩ = false := fun j => ho1.frozenAt j
      have f2 : ∀ j, wr.frozen? ⟨w.heap.size + 1, j, none⟩ = false := fun j => ho2.frozenAt j
      obtain ⟨c1, c2⟩ := inst_at hown hx k hlt
      have d1 : wr.cell? ⟨g, k * 2, none⟩ = some (.int .i64 (xs.getD k (0, 0)).1) := (hbel.cell (p := ⟨g, k * 2, none⟩) hglt).trans c1
      have d2 : wr.cell? ⟨g, k * 2 + 1, none⟩ = some (.int .i32 (xs.getD k (0, 0)).2) := (hbel.cell (p := ⟨g, k * 2 + 1, none⟩) hglt).trans c2
      obtain ⟨u1, e1⟩ : ∃ u, wr.cell? ⟨w.heap.size, k, none⟩ = some u := ⟨_, (ho1.cellAt k (by omega)).trans (List.getElem?_eq_getElem (by have := ho1.1; omega))⟩
      obtain ⟨u2, e2⟩ : ∃ u, wr.cell? ⟨w.heap.size + 1, k, none⟩ = some u := ⟨_, (ho2.cellAt k (by omega)).trans (List.getElem?_eq_getElem (by have := ho2.1; omega))⟩
      have g1 := fill_set (secs xs) (.int .i64 0) (.int .i64 0) k n (by simp [secs, hx]) hlt
      have g2 := fill_set (nsecs xs) (.int .i32 0) (.int .i32 0) k n (by simp [nsecs, hx]) hlt
      rw [secs_getD xs k (by omega)] at g1
      rw [nsecs_getD xs k (by omega)] at g2
      generalize xs.getD k (0, 0) = p at *
      have r1 := owns_other (ho1.stored k (.int .i64 p.1)).1 ⟨w.heap.size + 1, k, none⟩ (by simp) (.int .i32 p.2)
      have r2 := ((owns_other ho2 ⟨w.heap.size, k, none⟩ (by simp) (.int .i64 p.1)).stored k (.int .i32 p.2)).1
      rw [g1] at r1
      rw [g2] at r2
      have R1 := hide r1
      have R2 := hide r2
      clear r1 r2 g1 g2 ho1 ho2 hown c1 c2
      go_wp2
      exact ⟨⟨k + 1, by omega, by go_num, by simp [hsz], R1.out, R2.out, (hbel.setCell (by simp) _).setCell (by simp) _⟩, by simp [intOf]; omega⟩
    · have hkn : k = n := by omega
      subst hkn
      rw [List.take_of_length_le (by simp [secs, hx]), Nat.sub_self, List.replicate_zero, List.append_nil] at ho1
      rw [List.take_of_length_le (by simp [nsecs, hx]), Nat.sub_self, List.replicate_zero, List.append_nil] at ho2
      have R1 := hide ho1
      have R2 := hide ho2
      clear ho1 ho2 hown
      go_wp2
      go_quiet (fail)
      go_wp2
      refine bodyPost_ret (v := .tuple #[.int .i64 rs, .int .i32 rn, .int .i32 hd, .slice (some ⟨w.heap.size, 0, none⟩) k k, .slice (some ⟨w.heap.size + 1, 0, none⟩) k k]) (by simp [results, Try.results10]) rfl ⟨rfl, R1.out, R2.out, ?_⟩
      exact ⟨hbel.os, hbel.tape, hbel.output, hbel.size, hbel.block⟩
end Go.Proofs.Qxb6630764a
