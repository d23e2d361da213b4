import Derived.Test.Qxb6630764aWalksB
import Derived.Test.Qxb6630764aRegion
import Derived.Deep.DeepCutAuto
import Derived.Deep.CutBlock
namespace Go.Proofs.Qxb6630764a
open Go.RowKit Go.Sort

/-- 'now' set in among 'l', behind the last that is not later. -/
def Ins (now : Int × Int) (l l' : List (Int × Int)) : Prop :=
  ∃ j, j ≤ l.length ∧ (∀ t, j ≤ t → t < l.length → ltB now (l.getD t (0, 0)) = true) ∧ (j = 0 ∨ ltB now (l.getD (j - 1) (0, 0)) = false) ∧ l' = l.take j ++ now :: l.drop j

/-- The log behind the test on its room: ys are its entries, hd its head; where there is room, it lies at its row's head. -/
def Mid (B L g : Nat) (rs rn : Int) (live : List (Int × Int)) (n : Nat) (w0 w : World) : Prop :=
  ∃ (o m cap hd : Nat) (ys : List (Int × Int)), w.heap[L]? = some (.cells #[.int .i64 rs, .int .i32 rn, .int .i32 hd, .slice (some ⟨g, o, none⟩) m cap] 44 (0, 0)) ∧ ys.length = m ∧ hd ≤ m ∧ m ≤ n ∧ m ≤ cap ∧ ys.drop hd = live ∧
    (∀ j u, (flat ys)[j]? = some u → w.cell? ⟨g, o + j, none⟩ = some u) ∧ (m < cap → o = 0 ∧ w.ownsRow B 42 2 (.slice (some ⟨g, 0, none⟩) m cap) m (flat ys)) ∧ Kept (fun k => k = L ∨ k = g) w0 w

/-- The log behind the append: one zero entry more. -/
def Mid2 (B L g : Nat) (rs rn : Int) (hd m : Nat) (ys : List (Int × Int)) (N : Nat) (w0 w : World) : Prop :=
  ∃ (g' cap : Nat), w.heap[L]? = some (.cells #[.int .i64 rs, .int .i32 rn, .int .i32 hd, .slice (some ⟨g', 0, none⟩) (m + 1) cap] 44 (0, 0)) ∧ w.ownsRow B 42 2 (.slice (some ⟨g', 0, none⟩) (m + 1) cap) (m + 1) (flat (ys ++ [(0, 0)])) ∧ Kept (fun k => k = L ∨ k = g) w0 w ∧ (g' = g ∨ N ≤ g')

/-- The one instant that an append lays in a block of its own. -/
theorem new_cells (w : World) (p : Int × Int) (t : TypeId) : ∀ j u, (flat [p])[j]? = some u → (w.alloc (.cells #[.int .i64 p.1, .int .i32 p.2] t)).cell? ((⟨w.heap.size, 0, none⟩ : Addr).add j) = some u := by
  intro j u hu
  rw [Addr.add_lit, Nat.zero_add, cell_of_row _ _ _ _ _ _ (heap_alloc_new w _), ← hu]
  match j with
  | 0 => rfl
  | 1 => rfl
  | j + 2 => rfl

theorem splice_set {α : Type} (ys : List α) (z now : α) (i : Nat) (hi : i ≤ ys.length) : ((ys ++ [z]).take (i + 1) ++ ys.drop i).set i now = ys.take i ++ now :: ys.drop i := by
  have hl : ((ys ++ [z]).take i).length = i := by simp; omega
  have e : (ys ++ [z]).take (i + 1) = (ys ++ [z]).take i ++ [(ys ++ [z])[i]'(by simp; omega)] := List.take_succ_eq_append_getElem (by simp; omega)
  have e2 : (ys ++ [z]).take i = ys.take i := List.take_append_of_le_length hi
  rw [e, List.append_assoc, List.set_append_right _ _ (by omega), hl, Nat.sub_self, e2]
  rfl

theorem splice_length {α : Type} (ys : List α) (z : α) (i m : Nat) (hi : i ≤ m) (hm : ys.length = m) : ((ys ++ [z]).take (i + 1) ++ ys.drop i).length = m + 1 := by
  simp; omega

theorem ins_of {ys live : List (Int × Int)} {hd i m : Nat} {now : Int × Int} (hm : ys.length = m) (h : ys.drop hd = live) (h1 : hd ≤ i) (h2 : i ≤ m) (hall : ∀ t, i ≤ t → t < m → ltB now (ys.getD t (0, 0)) = true)
    (hlast : i = hd ∨ ltB now (ys.getD (i - 1) (0, 0)) = false) : Ins now live ((ys.take i ++ now :: ys.drop i).drop hd) := by
  subst h
  have hg : ∀ t, (ys.drop hd).getD t (0, 0) = ys.getD (hd + t) (0, 0) := fun t => by simp [List.getD]
  refine ⟨i - hd, by simp; omega, fun t ht1 ht2 => ?_, ?_, ?_⟩
  · rw [hg]; rw [List.length_drop] at ht2; exact hall _ (by omega) (by omega)
  · rcases hlast with e | e
    · exact .inl (by omega)
    · by_cases e2 : i = hd
      · exact .inl (by omega)
      · refine .inr ?_
        rw [hg, show hd + (i - hd - 1) = i - 1 by omega]; exact e
  · rw [List.drop_append_of_le_length (by simp; omega), List.drop_drop, show hd + (i - hd) = i by omega, List.drop_take]

/-- The row behind the copy: the entries from i on stand one place further on. -/
theorem row_shift {cur : Array Value} {ys : List (Int × Int)} {m i cap : Nat} (hm : ys.length = m) (hi : i ≤ m) (hcap : m + 1 ≤ cap) (hs : cur.size = cap * 2) (ht : cur.toList.take ((m + 1) * 2) = flat (ys ++ [(0, 0)])) :
    (cur.toList.take ((i + 1) * 2) ++ flat (ys.drop i) ++ cur.toList.drop ((i + 1) * 2 + (flat (ys.drop i)).length)).toArray.size = cap * 2 ∧
    (cur.toList.take ((i + 1) * 2) ++ flat (ys.drop i) ++ cur.toList.drop ((i + 1) * 2 + (flat (ys.drop i)).length)).toArray.toList.take ((m + 1) * 2) = flat ((ys ++ [(0, 0)]).take (i + 1) ++ ys.drop i) := by
  have hl : (flat (ys.drop i)).length = (m - i) * 2 := by rw [flat_length, List.length_drop, hm]
  have h1 : cur.toList.take ((i + 1) * 2) = flat ((ys ++ [(0, 0)]).take (i + 1)) := by
    rw [flat_take, ← ht, List.take_take, Nat.min_eq_left (by omega)]
  have h2 : (cur.toList.take ((i + 1) * 2) ++ flat (ys.drop i)).length = (m + 1) * 2 := by
    rw [List.length_append, List.length_take, Array.length_toList, hl]; omega
  constructor
  · simp only [List.size_toArray, List.length_append, List.length_take, List.length_drop, Array.length_toList, hl]; omega
  · rw [← h2]
    show List.take _ (_ ++ _) = _
    rw [List.take_left, h1, flat_append]

theorem Try.size42 : (Try.prog.info? 42).map (·.size) = some 2 := by kernel_rfl

/-- One field of the log stored. -/
theorem log_set {w : World} {L : Nat} {a b c d : Value} (h : w.heap[L]? = some (.cells #[a, b, c, d] 44 (0, 0))) (i : Nat) (v : Value) :
    (w.setCell ⟨L, i, none⟩ v).heap[L]? = some (.cells ((#[a, b, c, d] : Array Value).setIfInBounds i v) 44 (0, 0)) := heap_setCell_same w L i _ 44 v h

/-- The log's cells, one by one. -/
theorem log_cells {w : World} {L : Nat} {a b c d : Value} (h : w.heap[L]? = some (.cells #[a, b, c, d] 44 (0, 0))) :
    w.cell? ⟨L, 0, none⟩ = some a ∧ w.cell? ⟨L, 1, none⟩ = some b ∧ w.cell? ⟨L, 2, none⟩ = some c ∧ w.cell? ⟨L, 3, none⟩ = some d ∧ (∀ j, w.frozen? ⟨L, j, none⟩ = false) := by
  refine ⟨?_, ?_, ?_, ?_, fun j => frozen_of_row w L j _ 44 h⟩ <;> rw [cell_of_row w L _ _ 44 _ h] <;> rfl

set_option maxRecDepth 100000 in
set_option maxHeartbeats 4000000 in
theorem add_any (B L g n cap hd : Nat) (rs rn a1 a2 b1 b2 : Int) (xs : List (Int × Int)) (w : World)
    (hL : w.heap[L]? = some (.cells #[.int .i64 rs, .int .i32 rn, .int .i32 hd, .slice (some ⟨g, 0, none⟩) n cap] 44 (0, 0)))
    (hown : w.ownsRow B 42 2 (.slice (some ⟨g, 0, none⟩) n cap) n (flat xs)) (hx : xs.length = n) (hhd : hd ≤ n) (hn : n ≤ 1048576) (hBL : B ≤ L) :
    Calls Try.prog 13 #[.pointer (some ⟨L, 0, none⟩), .agg #[.int .i64 a1, .int .i32 a2], .agg #[.int .i64 b1, .int .i32 b2]] w fun e w' => e = .returned (.tuple #[]) ∧
      ∃ (g' n' cap' hd' : Nat) (xs' : List (Int × Int)), w'.heap[L]? = some (.cells #[.int .i64 (later (rs, rn) (b1, b2)).1, .int .i32 (later (rs, rn) (b1, b2)).2, .int .i32 hd', .slice (some ⟨g', 0, none⟩) n' cap'] 44 (0, 0)) ∧
        w'.ownsRow B 42 2 (.slice (some ⟨g', 0, none⟩) n' cap') n' (flat xs') ∧ xs'.length = n' ∧ hd' ≤ n' ∧ n' ≤ n + 1 ∧ Ins (a1, a2) (xs.drop hd) (xs'.drop hd') ∧ Kept (fun k => k = L ∨ k = g) w w' ∧ (g' = g ∨ w.heap.size ≤ g') := by
  have hLlt : L < w.heap.size := (Array.getElem?_eq_some_iff.1 hL).1
  have hglt : g < w.heap.size := (owns_lt hown).2
  have hgL : g ≠ L := by
    rintro rfl
    obtain ⟨cur, hc, _⟩ := owns_open hown
    rw [hL] at hc
    simp at hc
  have k0 : w.cell? ⟨L, 0, none⟩ = some (.int .i64 rs) := by rw [cell_of_row w L 0 _ 44 _ hL]; rfl
  have k1 : w.cell? ⟨L, 1, none⟩ = some (.int .i32 rn) := by rw [cell_of_row w L 1 _ 44 _ hL]; rfl
  have k2 : w.cell? ⟨L, 2, none⟩ = some (.int .i32 hd) := by rw [cell_of_row w L 2 _ 44 _ hL]; rfl
  have k3 : w.cell? ⟨L, 3, none⟩ = some (.slice (some ⟨g, 0, none⟩) n cap) := by rw [cell_of_row w L 3 _ 44 _ hL]; rfl
  have kf : ∀ j, w.frozen? ⟨L, j, none⟩ = false := fun j => frozen_of_row w L j _ 44 hL
  have hcap : n ≤ cap ∧ cap ≤ maxLen := by obtain ⟨cur, _, _, h1, h2, _⟩ := owns_open hown; exact ⟨h1, h2⟩
  have hcm := hcap.2
  unfold maxLen at hcm
  have HL := hide hL
  have Hown := hide hown
  clear hL hown
  go_enter Try.func13, Try.ntmps13
  go_wp2
  go_quiet (fail)
  go_upto_if 18 with fail
  obtain ⟨W0, hW0⟩ : ∃ W0, W0 = (w.alloc (.cells #[.int .i64 a1, .int .i32 a2] 42)).alloc (.cells #[.int .i64 b1, .int .i32 b2] 42) := ⟨_, rfl⟩
  have hK0 : Below w.heap.size w W0 := by rw [hW0]; exact ((Below.refl _ _).alloc (Nat.le_refl _) _).alloc (by simp) _
  have hs0 : W0.heap.size = w.heap.size + 1 + 1 := by rw [hW0]; simp
  rw [← hW0]
  obtain ⟨W, hW⟩ : ∃ W, W = W0.drewN nq := ⟨_, rfl⟩
  have hK1 : Kept (fun k => k = L ∨ k = g) W0 W := by rw [hW]; exact (Kept.refl _ _).drewN nq
  have hs1 : W.heap.size = w.heap.size + 1 + 1 := by rw [hW]; exact hs0
  have hc4 : ∀ j, W.cell? ⟨w.heap.size, j, none⟩ = (#[.int .i64 a1, .int .i32 a2] : Array Value)[j]? ∧ W.cell? ⟨w.heap.size + 1, j, none⟩ = (#[.int .i64 b1, .int .i32 b2] : Array Value)[j]? := by
    intro j
    rw [hW, hW0]
    constructor
    · exact cell_of_row _ _ _ _ _ _ (heap_alloc2_old w _ _)
    · exact cell_of_row _ _ _ _ _ _ (heap_alloc2_new w _ _)
  rw [← hW]
  have HW0 := hide hW0
  have HW := hide hW
  clear hW0 hW
  have fL : W.heap[L]? = some (.cells #[.int .i64 rs, .int .i32 rn, .int .i32 hd, .slice (some ⟨g, 0, none⟩) n cap] 44 (0, 0)) := by
    rw [HW.out]; exact (hK0.block L hLlt).trans HL.out
  have fO : W.ownsRow B 42 2 (.slice (some ⟨g, 0, none⟩) n cap) n (flat xs) := by
    rw [HW.out]; exact owns_kept Hown.out ((Kept.of_below (bad := fun _ => False) hK0).drewN nq) (fun q => q)
  go_cut [] from 6 (fun w' => Mid B L g rs rn (xs.drop hd) n W0 w')
  case rest =>
    revert wc
    intro w2 hcut
    obtain ⟨o, m, cap', hd', ys, cL, hym, hdm, hmn, hmc, hlive, hcel, hroom, hK2⟩ := hcut
    clear k0 k1 k2 k3 kf hc4 fL fO
    have b4 : w2.heap[w.heap.size]? = some (.cells #[.int .i64 a1, .int .i32 a2] 42 (0, 0)) := by
      rw [hK2.block _ (by omega) (by omega), HW0.out]; exact heap_alloc2_old w _ _
    have b5 : w2.heap[w.heap.size + 1]? = some (.cells #[.int .i64 b1, .int .i32 b2] 42 (0, 0)) := by
      rw [hK2.block _ (by omega) (by omega), HW0.out]; exact heap_alloc2_new w _ _
    have hwc : w.heap.size + 1 + 1 ≤ w2.heap.size := by have := hK2.size; omega
    obtain ⟨k0, k1, k2, k3, kf⟩ := log_cells cL
    have CL := hide cL
    have B4 := hide b4
    have B5 := hide b5
    have HY := hide hym
    clear cL b4 b5 hym
    go_upto_block 0 with fail
    go_cut [7] from 8 (fun i w' => ∃ k : Nat, hd' ≤ k ∧ k ≤ m ∧ i = .int .i64 k ∧ (∀ t, k ≤ t → t < m → ltB (a1, a2) (ys.getD t (0, 0)) = true) ∧ (k = hd' ∨ ltB (a1, a2) (ys.getD (k - 1) (0, 0)) = false) ∧ Below w2.heap.size w2 w')
    case rest =>
      obtain ⟨i, hi1, hi2, rfl, hall, hlast, hbel⟩ := hcut
      have d4 : wc.heap[w.heap.size]? = some (.cells #[.int .i64 a1, .int .i32 a2] 42 (0, 0)) := (hbel.block _ (by omega)).trans B4.out
      have d5 : wc.heap[w.heap.size + 1]? = some (.cells #[.int .i64 b1, .int .i32 b2] 42 (0, 0)) := (hbel.block _ (by omega)).trans B5.out
      have dL : wc.heap[L]? = some (.cells #[.int .i64 rs, .int .i32 rn, .int .i32 hd', .slice (some ⟨g, o, none⟩) m cap'] 44 (0, 0)) := (hbel.block _ (by omega)).trans CL.out
      have hcel2 : ∀ j u, (flat ys)[j]? = some u → wc.cell? ⟨g, o + j, none⟩ = some u := fun j u hu => (hbel.cell (p := ⟨g, o + j, none⟩) (by show g < _; omega)).trans (hcel j u hu)
      have hroom2 : m < cap' → o = 0 ∧ wc.ownsRow B 42 2 (.slice (some ⟨g, 0, none⟩) m cap') m (flat ys) := fun q => ⟨(hroom q).1, owns_kept (hroom q).2 (Kept.of_below (bad := fun _ => False) hbel) (fun q => q)⟩
      have hwc2 : w2.heap.size ≤ wc.heap.size := hbel.size
      clear k0 k1 k2 k3 kf hcel hroom
      obtain ⟨k0, k1, k2, k3, kf⟩ := log_cells dL
      have DL := hide dL
      have HC := hide hcel2
      have HR := hide hroom2
      have HB := hide hbel
      have HL2 := hide hlast
      have HA := hide hall
      clear dL hcel2 hroom2 hbel hlast hall
      go_upto_region 10 with fail
      go_cut [] from 8 (fun w' => Mid2 B L g rs rn hd' m ys wc.heap.size wc w')
      case rest =>
        revert wc
        intro w4 hcut
        obtain ⟨g', cap2, cL4, ho4, hK4, hgg⟩ := hcut
        have f4 : w4.heap[w.heap.size]? = some (.cells #[.int .i64 a1, .int .i32 a2] 42 (0, 0)) := (hK4.block _ (by omega) (by omega)).trans d4
        have f5 : w4.heap[w.heap.size + 1]? = some (.cells #[.int .i64 b1, .int .i32 b2] 42 (0, 0)) := (hK4.block _ (by omega) (by omega)).trans d5
        have hg'L : g' ≠ L := by omega
        have hg'4 : g' ≠ w.heap.size ∧ g' ≠ w.heap.size + 1 := by omega
        have hw4 : w.heap.size + 1 + 1 ≤ w4.heap.size := by have := hK4.size; omega
        have hg'lt : g' < w4.heap.size := (owns_lt ho4).2
        obtain ⟨cur, hcur, hBg, hmc2, hcmax, hcs, htake⟩ := owns_open ho4
        have hcmax' : cap2 ≤ 9223372036854775807 := by unfold maxLen at hcmax; omega
        have hK04 : Kept (fun k => k = L ∨ k = g) w w4 := (((Kept.of_below hK0).trans hK2 (fun _ _ q => q)).trans (Kept.of_below (bad := fun _ => False) HB.out) (fun _ _ q => q.elim)).trans hK4 (fun _ _ q => q)
        clear k0 k1 k2 k3 kf DL HC HR HB d4 d5 CL B4 B5 hK4 hK2 hK0 hK1
        obtain ⟨k0, k1, k2, k3, kf⟩ := log_cells cL4
        have CL := hide cL4
        have HO := hide ho4
        have HF4 := hide f4
        have HF5 := hide f5
        have HT := hide htake
        have HS := hide hcs
        have HCU := hide hcur
        have HLV := hide hlive
        clear cL4 ho4 f4 f5 htake hcs hcur hlive
        have hne : ¬ cap2 = i := by omega
        go_wp2
        refine wp_region_tail 13 (by kernel_rfl) (by kernel_rfl) ?_
        simp only [List.take_succ_cons, List.take_zero, List.drop_succ_cons, List.drop_zero]
        repeat (go_big_quiet_step (fail))
        refine wpQuiet_nil ?_
        have hfl : (flat (ys.drop i)).length = (m - i) * 2 := by rw [flat_length, List.length_drop, HY.out]
        refine wpList_copy_cells rfl (.tmp 111) (.tmp 117) 40 40 rfl 42 Try.underlying40 2 Try.size42 _ _ _ _ _ _ rfl rfl g' ((i + 1) * 2) cur 42 HCU.out (m - i) (by simp only [Nat.min_def]; split <;> omega) (flat (ys.drop i)) hfl ?_ (by have := HS.out; omega) (flat_one _) ?_
        · intro hm0
          have hne2 : ¬ cap2 = i + 1 := by omega
          refine ⟨by simp [hne2], ⟨g', i * 2, none⟩, rfl, fun jj v hv => ?_⟩
          rw [Addr.add_lit]
          have hlt := (List.getElem?_eq_some_iff.1 hv).1
          rw [flat_drop, List.getElem?_drop] at hv
          show w4.cell? _ = _
          rw [HO.out.cellAt (i * 2 + jj) (by omega), flat_append, List.getElem?_append_left (by rw [flat_length, HY.out]; omega)]
          exact hv
        · intro w5 hg5 hk5
          generalize (if cap2 = i + 1 then some (⟨g', 0, none⟩ : Addr) else some ⟨g', (i + 1) * 2, none⟩) = adx
          obtain ⟨hrs, hrt⟩ := row_shift HY.out hi2 hmc2 HS.out HT.out
          have ho5 : w5.ownsRow B 42 2 (.slice (some ⟨g', 0, none⟩) (m + 1) cap2) (m + 1) (flat ((ys ++ [(0, 0)]).take (i + 1) ++ ys.drop i)) := owns_mk hg5.out hBg hmc2 hcmax hrs hrt
          have e5 : w5.heap[L]? = some (.cells #[.int .i64 rs, .int .i32 rn, .int .i32 hd', .slice (some ⟨g', 0, none⟩) (m + 1) cap2] 44 (0, 0)) := (hk5.block L (by show L < w4.heap.size; omega) (fun q => hg'L q.symm)).trans CL.out
          have g4 : w5.heap[w.heap.size]? = some (.cells #[.int .i64 a1, .int .i32 a2] 42 (0, 0)) := (hk5.block _ (by show _ < w4.heap.size; omega) (fun q => hg'4.1 q.symm)).trans HF4.out
          have g5 : w5.heap[w.heap.size + 1]? = some (.cells #[.int .i64 b1, .int .i32 b2] 42 (0, 0)) := (hk5.block _ (by show _ < w4.heap.size; omega) (fun q => hg'4.2 q.symm)).trans HF5.out
          have hK05 : Kept (fun k => k = L ∨ k = g) w w5 := (hK04.drew).trans hk5 (fun k hk q => by omega)
          have hw5 : w.heap.size + 1 + 1 ≤ w5.heap.size := by have : w4.heap.size ≤ w5.heap.size := hk5.size; omega
          clear k0 k1 k2 k3 kf CL HO HF4 HF5 HT HS HCU hg5 hk5 hrs hrt hfl hK04
          obtain ⟨k0, k1, k2, k3, kf⟩ := log_cells e5
          have i4 : w5.cell? ⟨w.heap.size, 0, none⟩ = some (.int .i64 a1) := by rw [cell_of_row _ _ _ _ _ _ g4]; rfl
          have i5 : w5.cell? ⟨w.heap.size, 1, none⟩ = some (.int .i32 a2) := by rw [cell_of_row _ _ _ _ _ _ g4]; rfl
          obtain ⟨c1, c2⟩ := inst_at ho5 (splice_length ys (0, 0) i m hi2 HY.out) i (by omega)
          have f1 : ∀ j, w5.frozen? ⟨g', j, none⟩ = false := fun j => ho5.frozenAt j
          generalize ((ys ++ [(0, 0)]).take (i + 1) ++ ys.drop i).getD i (0, 0) = q at *
          have ho6 := inst_set ho5 i (a1, a2)
          rw [splice_set ys (0, 0) (a1, a2) i (by rw [HY.out]; exact hi2)] at ho6
          have E5 := hide e5
          have G5 := hide g5
          have HO6 := hide ho6
          have HK5 := hide hK05
          clear e5 g4 g5 ho5 ho6 hK05
          have hil : (i : Int) < (m : Int) + 1 := by omega
          go_wp2
          refine wp_region_tail 7 (by kernel_rfl) (by kernel_rfl) ?_
          simp only [List.take_succ_cons, List.take_zero, List.drop_succ_cons, List.drop_zero]
          repeat (go_big_quiet_step (fail))
          refine wpQuiet_nil ?_
          go_wp2
          have e6 : (((w5.setCell ⟨g', i * 2, none⟩ (.int .i64 a1)).setCell ⟨g', i * 2 + 1, none⟩ (.int .i32 a2)).drew).heap[L]? = some (.cells #[.int .i64 rs, .int .i32 rn, .int .i32 hd', .slice (some ⟨g', 0, none⟩) (m + 1) cap2] 44 (0, 0)) := by
            show ((w5.setCell ⟨g', i * 2, none⟩ (.int .i64 a1)).setCell ⟨g', i * 2 + 1, none⟩ (.int .i32 a2)).heap[L]? = _
            rw [heap_setCell_other _ _ _ _ (Ne.symm hg'L), heap_setCell_other _ _ _ _ (Ne.symm hg'L)]; exact E5.out
          have g6 : (((w5.setCell ⟨g', i * 2, none⟩ (.int .i64 a1)).setCell ⟨g', i * 2 + 1, none⟩ (.int .i32 a2)).drew).heap[w.heap.size + 1]? = some (.cells #[.int .i64 b1, .int .i32 b2] 42 (0, 0)) := by
            show ((w5.setCell ⟨g', i * 2, none⟩ (.int .i64 a1)).setCell ⟨g', i * 2 + 1, none⟩ (.int .i32 a2)).heap[w.heap.size + 1]? = _
            rw [heap_setCell_other _ _ _ _ (Ne.symm hg'4.2), heap_setCell_other _ _ _ _ (Ne.symm hg'4.2)]; exact G5.out
          have hK06 : Kept (fun k => k = L ∨ k = g) w (((w5.setCell ⟨g', i * 2, none⟩ (.int .i64 a1)).setCell ⟨g', i * 2 + 1, none⟩ (.int .i32 a2)).drew) :=
            ((HK5.out.setCell ⟨g', i * 2, none⟩ (fun q => by have q' : g' < w.heap.size := q; show g' = L ∨ g' = g; omega) _).setCell ⟨g', i * 2 + 1, none⟩ (fun q => by have q' : g' < w.heap.size := q; show g' = L ∨ g' = g; omega) _).drew
          have ho6 : (((w5.setCell ⟨g', i * 2, none⟩ (.int .i64 a1)).setCell ⟨g', i * 2 + 1, none⟩ (.int .i32 a2)).drew).ownsRow B 42 2 (.slice (some ⟨g', 0, none⟩) (m + 1) cap2) (m + 1) (flat (ys.take i ++ (a1, a2) :: ys.drop i)) := HO6.out.drew
          have hw6 : w.heap.size + 1 + 1 ≤ (((w5.setCell ⟨g', i * 2, none⟩ (.int .i64 a1)).setCell ⟨g', i * 2 + 1, none⟩ (.int .i32 a2)).drew).heap.size := by simpa using hw5
          clear k0 k1 k2 k3 kf i4 i5 c1 c2 f1 E5 G5 HO6 HK5
          generalize ((w5.setCell ⟨g', i * 2, none⟩ (.int .i64 a1)).setCell ⟨g', i * 2 + 1, none⟩ (.int .i32 a2)).drew = w6 at *
          obtain ⟨k0, k1, k2, k3, kf⟩ := log_cells e6
          have m0 : ∀ d os, (grow (redrawn w6 d) os).cell? ⟨L, 0, none⟩ = some (.int .i64 rs) := fun d os => cell_regrown k0 d os
          have m1 : ∀ d os, (grow (redrawn w6 d) os).cell? ⟨L, 1, none⟩ = some (.int .i32 rn) := fun d os => cell_regrown k1 d os
          have m2 : ∀ d os, (grow (redrawn w6 d) os).cell? ⟨L, 2, none⟩ = some (.int .i32 hd') := fun d os => cell_regrown k2 d os
          have m3 : ∀ d os, (grow (redrawn w6 d) os).cell? ⟨L, 3, none⟩ = some (.slice (some ⟨g', 0, none⟩) (m + 1) cap2) := fun d os => cell_regrown k3 d os
          have m4 : ∀ d os, (grow (redrawn w6 d) os).cell? ⟨w.heap.size + 1, 0, none⟩ = some (.int .i64 b1) := fun d os => cell_regrown (by rw [cell_of_row _ _ _ _ _ _ g6]; rfl) d os
          have m5 : ∀ d os, (grow (redrawn w6 d) os).cell? ⟨w.heap.size + 1, 1, none⟩ = some (.int .i32 b2) := fun d os => cell_regrown (by rw [cell_of_row _ _ _ _ _ _ g6]; rfl) d os
          have E6 := hide e6
          have G6 := hide g6
          have HO6 := hide ho6
          have HK6 := hide hK06
          clear e6 g6 ho6 hK06 k0 k1 k2 k3 kf
          cases hb : ltB (rs, rn) (b1, b2)
          · refine wp_region_quiet_below (by kernel_rfl) (by kernel_rfl) ?_
            repeat (go_big_quiet_step (first | (go_at_call 15; exact Calls.regrown_of (release_any _ _ _ _ _)) | (go_at_call 14; exact Calls.regrown_of (before_any _ _ _ _ _))))
            refine wpQuiet_nil ?_
            intro _ hw'
            obtain ⟨⟨dq, osq⟩, hw''⟩ := hw'
            subst hw''
            rw [hb]
            go_wp2
            go_end0
            have hb7 := below_regrown w6 dq osq
            generalize grow (redrawn w6 dq) osq = w7 at *
            have hlt6 : L < w6.heap.size := by omega
            refine ⟨rfl, g', m + 1, cap2, hd', ys.take i ++ (a1, a2) :: ys.drop i, ?_, owns_kept HO6.out (Kept.of_below (bad := fun _ => False) hb7) (fun q => q), by have := HY.out; simp; omega, by omega, by omega, ins_of HY.out HLV.out hi1 hi2 HA.out HL2.out, HK6.out.trans (Kept.of_below (bad := fun _ => False) hb7) (fun _ _ q => q.elim), by omega⟩
            have hl : later (rs, rn) (b1, b2) = (rs, rn) := by simp [later, hb]
            rw [hl, hb7.block L hlt6]; exact E6.out
          · refine wp_region_quiet_below (by kernel_rfl) (by kernel_rfl) ?_
            repeat (go_big_quiet_step (first | (go_at_call 15; exact Calls.regrown_of (release_any _ _ _ _ _)) | (go_at_call 14; exact Calls.regrown_of (before_any _ _ _ _ _))))
            refine wpQuiet_nil ?_
            intro _ hw'
            obtain ⟨⟨dq, osq⟩, hw''⟩ := hw'
            subst hw''
            have hb7 := below_regrown w6 dq osq
            clear m0 m1 m2 m3 m4 m5
            generalize grow (redrawn w6 dq) osq = w7 at *
            have hlt6 : L < w6.heap.size := by omega
            have e7 : w7.heap[L]? = some (.cells #[.int .i64 rs, .int .i32 rn, .int .i32 hd', .slice (some ⟨g', 0, none⟩) (m + 1) cap2] 44 (0, 0)) := (hb7.block L hlt6).trans E6.out
            have g7 : w7.heap[w.heap.size + 1]? = some (.cells #[.int .i64 b1, .int .i32 b2] 42 (0, 0)) := (hb7.block _ (by omega)).trans G6.out
            obtain ⟨k0, k1, k2, k3, kf⟩ := log_cells e7
            have i6 : w7.cell? ⟨w.heap.size + 1, 0, none⟩ = some (.int .i64 b1) := by rw [cell_of_row _ _ _ _ _ _ g7]; rfl
            have i7 : w7.cell? ⟨w.heap.size + 1, 1, none⟩ = some (.int .i32 b2) := by rw [cell_of_row _ _ _ _ _ _ g7]; rfl
            have s7 := log_set (log_set e7 0 (.int .i64 b1)) 1 (.int .i32 b2)
            have hO7 := owns_other (owns_other (owns_kept HO6.out (Kept.of_below (bad := fun _ => False) hb7) (fun q => q)) ⟨L, 0, none⟩ (Ne.symm hg'L) (.int .i64 b1)) ⟨L, 1, none⟩ (Ne.symm hg'L) (.int .i32 b2)
            have hK7 := ((HK6.out.trans (Kept.of_below (bad := fun _ => False) hb7) (fun _ _ q => q.elim)).setCell ⟨L, 0, none⟩ (fun _ => .inl rfl) (.int .i64 b1)).setCell ⟨L, 1, none⟩ (fun _ => .inl rfl) (.int .i32 b2)
            have S7 := hide s7
            have HO7 := hide hO7
            have HK7 := hide hK7
            clear s7 hO7 hK7 e7 g7
            rw [hb]
            go_wp2
            go_region
            go_wp2
            go_end0
            refine ⟨rfl, g', m + 1, cap2, hd', ys.take i ++ (a1, a2) :: ys.drop i, ?_, HO7.out.drew, by have := HY.out; simp; omega, by omega, by omega, ins_of HY.out HLV.out hi1 hi2 HA.out HL2.out, HK7.out.drew, by omega⟩
            have hl : later (rs, rn) (b1, b2) = (b1, b2) := by simp [later, hb]
            rw [hl]; exact S7.out
      case first =>
        obtain ⟨i0, hi0, hz0, hz1, hz2⟩ := info_parts Try.info42
        by_cases hr : m < cap'
        · obtain ⟨rfl, ho⟩ := HR.out hr
          go_wp2_with (at_builtin; refine wpList_append_fits _ rfl (.tmp 99) (.tmp 101) 40 rfl B 42 i0 2 Try.underlying40 hi0 hz1 g m cap' (flat ys) rfl (ho.alloc _) ⟨wc.heap.size, 0, none⟩ 1 1 (flat [(0, 0)]) rfl rfl (new_cells wc (0, 0) 42) (flat_one _) (by omega) ?_)
          intro w3 ho3 hg3
          have e3 : w3.heap[L]? = some (.cells #[.int .i64 rs, .int .i32 rn, .int .i32 hd', .slice (some ⟨g, 0, none⟩) m cap'] 44 (0, 0)) := by
            rw [hg3.block L (by simp; omega) (by simp; omega), Below.heap_alloc _ _ _ (by omega)]; exact DL.out
          clear k0 k1 k2 k3 kf
          obtain ⟨k0, k1, k2, k3, kf⟩ := log_cells e3
          have s1 := log_set e3 3 (.slice (some ⟨g, 0, none⟩) (m + 1) cap')
          have S1 := hide s1
          have O3 := hide ho3
          have G3 := hide hg3
          clear s1 ho3 hg3 e3
          go_wp2
          go_meet
          case rel =>
            refine ⟨g, cap', S1.out, ?_, ?_, .inl rfl⟩
            · rw [flat_append]; exact owns_other O3.out ⟨L, 3, none⟩ (Ne.symm hgL) _
            · exact ((((Kept.refl _ wc).alloc _).trans (Kept.of_grown G3.out) (fun k _ q => .inr (Option.some.inj q))).setCell _ (fun _ => .inl rfl) _)
        · have hyl : (flat ys).length = m * 2 := by rw [flat_length, HY.out]
          have HYL := hide hyl
          clear hyl
          go_wp2_with (at_builtin; refine wpList_append_grows _ rfl (.tmp 99) (.tmp 101) 40 rfl 42 i0 (.agg #[.int .i64 0, .int .i32 0]) 2 16 Try.underlying40 hi0 hz0 hz1 hz2 rfl (by decide) (some ⟨g, o, none⟩) m cap' (flat ys) rfl (fun q => nomatch q) HYL.out ?co ⟨wc.heap.size, 0, none⟩ 1 1 (flat [(0, 0)]) rfl rfl (new_cells wc (0, 0) 42) (flat_one _) (by omega) (by unfold maxLen; omega) (by omega) ?_)
          case co =>
            intro b hb j u hu
            obtain rfl := Option.some.inj hb
            rw [Addr.add_lit]
            exact (((Below.refl wc.heap.size wc).alloc (Nat.le_refl _) _).cell (p := ⟨g, o + j, none⟩) (by show g < _; omega)).trans (HC.out j u hu)
          intro v3 w3 ho3 hg3
          obtain ⟨g3, cap3, hv3, hg3b⟩ : ∃ g3 cap3, v3 = .slice (some ⟨g3, 0, none⟩) (m + 1) cap3 ∧ wc.heap.size ≤ g3 := by
            rcases ho3.2 with ⟨_, h0⟩ | ⟨g3, cap3, cur, hv, hb, _⟩
            · omega
            · exact ⟨g3, cap3, hv, by omega⟩
          rw [hv3] at ho3 ⊢
          clear hv3
          have e3 : w3.heap[L]? = some (.cells #[.int .i64 rs, .int .i32 rn, .int .i32 hd', .slice (some ⟨g, o, none⟩) m cap'] 44 (0, 0)) := by
            rw [hg3.block L (by simp; omega) (by simp), Below.heap_alloc _ _ _ (by omega)]; exact DL.out
          clear k0 k1 k2 k3 kf
          obtain ⟨k0, k1, k2, k3, kf⟩ := log_cells e3
          have s1 := log_set e3 3 (.slice (some ⟨g3, 0, none⟩) (m + 1) cap3)
          have S1 := hide s1
          have O3 := hide ho3
          have G3 := hide hg3
          clear s1 ho3 hg3 e3
          go_wp2
          go_meet
          case rel =>
            refine ⟨g3, cap3, S1.out, ?_, ?_, .inr (by omega)⟩
            · rw [flat_append]; exact owns_base (owns_other O3.out ⟨L, 3, none⟩ (by show L ≠ g3; omega) _) (by omega)
            · exact ((((Kept.refl _ wc).alloc _).trans (Kept.of_grown G3.out) (fun k _ q => by cases q)).setCell _ (fun _ => .inl rfl) _)
    case first =>
      go_wp2
      go_loopw [7] (fun i wr => ∃ k : Nat, hd' ≤ k ∧ k ≤ m ∧ i = .int .i64 k ∧ (∀ t, k ≤ t → t < m → ltB (a1, a2) (ys.getD t (0, 0)) = true) ∧ Below w2.heap.size w2 wr) (fun i _ => (intOf i).toNat)
      case atStart => exact ⟨m, hdm, Nat.le_refl _, rfl, fun t h1 h2 => by omega, Below.refl _ _⟩
      case round =>
        obtain ⟨k, hk1, hk2, rfl, hall, hbel⟩ := hrel
        have HA := hide hall
        clear hall
        have m2 : ∀ d os, (grow (redrawn wr d) os).cell? ⟨L, 2, none⟩ = some (.int .i32 hd') := fun d os => cell_regrown ((hbel.cell (p := ⟨L, 2, none⟩) (by show L < _; omega)).trans k2) d os
        have m3 : ∀ d os, (grow (redrawn wr d) os).cell? ⟨L, 3, none⟩ = some (.slice (some ⟨g, o, none⟩) m cap') := fun d os => cell_regrown ((hbel.cell (p := ⟨L, 3, none⟩) (by show L < _; omega)).trans k3) d os
        have m4 : ∀ d os, (grow (redrawn wr d) os).cell? ⟨w.heap.size, 0, none⟩ = some (.int .i64 a1) := fun d os => cell_regrown ((hbel.cell (p := ⟨w.heap.size, 0, none⟩) (by show w.heap.size < _; omega)).trans (by rw [cell_of_row _ _ _ _ _ _ B4.out]; rfl)) d os
        have m5 : ∀ d os, (grow (redrawn wr d) os).cell? ⟨w.heap.size, 1, none⟩ = some (.int .i32 a2) := fun d os => cell_regrown ((hbel.cell (p := ⟨w.heap.size, 1, none⟩) (by show w.heap.size < _; omega)).trans (by rw [cell_of_row _ _ _ _ _ _ B4.out]; rfl)) d os
        by_cases hlt : k = hd'
        · subst hlt
          go_wp2
          refine wp_region_quiet_below (by kernel_rfl) (by kernel_rfl) ?_
          repeat (go_big_quiet_step (fail))
          refine wpQuiet_nil ?_
          intro _ hw'
          obtain ⟨⟨dq, osq⟩, hw''⟩ := hw'
          subst hw''
          go_wp2
          go_meet
          case rel => exact ⟨k, Nat.le_refl _, hk2, rfl, HA.out, .inl rfl, hbel.trans ((below_regrown wr dq osq).mono hbel.size)⟩
        · obtain ⟨i, rfl⟩ : ∃ i, k = i + 1 := ⟨k - 1, by omega⟩
          have hlk : (hd' : Int) < (i : Int) + 1 := by omega
          have hlk1 : hd' ≤ i := by omega
          have hlk2 : (hd' : Int) ≤ (i : Int) := by omega
          have hilt : i < ys.length := by have := HY.out; omega
          have m6 : ∀ d os, (grow (redrawn wr d) os).cell? ⟨g, o + i * 2, none⟩ = some (.int .i64 (ys.getD i (0, 0)).1) := fun d os => cell_regrown ((hbel.cell (p := ⟨g, o + i * 2, none⟩) (by show g < _; omega)).trans (hcel _ _ (flat_get0 ys i hilt))) d os
          have m7 : ∀ d os, (grow (redrawn wr d) os).cell? ⟨g, o + i * 2 + 1, none⟩ = some (.int .i32 (ys.getD i (0, 0)).2) := fun d os => cell_regrown ((hbel.cell (p := ⟨g, o + i * 2 + 1, none⟩) (by show g < _; omega)).trans (hcel _ _ (flat_get1 ys i hilt))) d os
          generalize hp : ys.getD i (0, 0) = p at *
          have HP := hide hp
          clear hp hcel
          cases hb : ltB (a1, a2) p
          · go_wp2
            refine wp_region_quiet_below (by kernel_rfl) (by kernel_rfl) ?_
            repeat (go_big_quiet_step (exact Calls.regrown_of (before_any _ _ _ _ _)))
            refine wpQuiet_nil ?_
            intro _ hw'
            obtain ⟨⟨dq, osq⟩, hw''⟩ := hw'
            subst hw''
            go_wp2
            go_meet
            case rel => exact ⟨i + 1, by omega, hk2, rfl, HA.out, .inr (by rw [Nat.add_sub_cancel, HP.out]; exact hb), hbel.trans ((below_regrown wr dq osq).mono hbel.size)⟩
          · go_wp2
            refine wp_region_quiet_below (by kernel_rfl) (by kernel_rfl) ?_
            repeat (go_big_quiet_step (exact Calls.regrown_of (before_any _ _ _ _ _)))
            refine wpQuiet_nil ?_
            intro _ hw'
            obtain ⟨⟨dq, osq⟩, hw''⟩ := hw'
            subst hw''
            go_wp2
            go_roundw
            case rel =>
              refine ⟨i, hlk1, by omega, by go_num, fun t h1 h2 => ?_, hbel.trans ((below_regrown wr dq osq).mono hbel.size)⟩
              by_cases e : t = i
              · rw [e, HP.out]; exact hb
              · exact HA.out t (by omega) h2
            case measure => simp [intOf]
  case first =>
    clear k0 k1 k2 k3 kf hc4
    have k2 : W.cell? ⟨L, 2, none⟩ = some (.int .i32 hd) := by rw [cell_of_row W L 2 _ 44 _ fL]; rfl
    have k3 : W.cell? ⟨L, 3, none⟩ = some (.slice (some ⟨g, 0, none⟩) n cap) := by rw [cell_of_row W L 3 _ 44 _ fL]; rfl
    have kf : ∀ j, W.frozen? ⟨L, j, none⟩ = false := fun j => frozen_of_row W L j _ 44 fL
    have FL := hide fL
    have FO := hide fO
    clear fL fO
    by_cases hnc : n = cap
    · have ht : ((n : Int) == (cap : Int)) = true := by simp [hnc]
      have HN := hide hnc
      clear hnc
      by_cases hq : (n : Int) / 2 ≤ (hd : Int)
      · obtain ⟨m, hmd⟩ : ∃ m, m + hd = n := ⟨n - hd, by omega⟩
        have HM := hide hmd
        clear hmd
        go_wp2
        go_quiet (fail)
        go_wp2
        refine wp_region_tail 13 (by kernel_rfl) (by kernel_rfl) ?_
        simp only [List.take_succ_cons, List.take_zero, List.drop_succ_cons, List.drop_zero]
        repeat (go_big_quiet_step (fail))
        refine wpQuiet_nil ?_
        have hmd := HM.out
        obtain ⟨cur, hcur, hBg, _, _, hcs, htake⟩ := owns_open FO.out
        have hfl : (flat (xs.drop hd)).length = m * 2 := by rw [flat_length, List.length_drop]; omega
        refine wpList_copy_cells rfl (.tmp 34) (.tmp 43) 40 40 rfl 42 Try.underlying40 2 Try.size42 _ _ _ _ _ _ rfl rfl g 0 cur 42 hcur m (by simp only [Nat.min_def]; split <;> omega) (flat (xs.drop hd)) hfl ?_ (by have := HN.out; omega) (flat_one _) ?_
        · intro hm0
          have hne : ¬ cap = hd := by have := HN.out; omega
          refine ⟨rfl, ⟨g, hd * 2, none⟩, by rw [if_neg hne], fun jj v hv => ?_⟩
          rw [Addr.add_lit]
          have hlt := (List.getElem?_eq_some_iff.1 hv).1
          show W.cell? _ = _
          rw [FO.out.cellAt (hd * 2 + jj) (by omega), ← hv, flat_drop, List.getElem?_drop]
        · intro w1 hg1 hk1
          generalize (if cap = hd then some (⟨g, 0, none⟩ : Addr) else some ⟨g, hd * 2, none⟩) = adx
          have l1 : w1.heap[L]? = some (.cells #[.int .i64 rs, .int .i32 rn, .int .i32 hd, .slice (some ⟨g, 0, none⟩) n cap] 44 (0, 0)) := (hk1.block L (by show L < W.heap.size; omega) (fun q => hgL q.symm)).trans FL.out
          obtain ⟨_, _, q2, q3, qf⟩ := log_cells l1
          have s1 := log_set (log_set l1 3 (.slice (some ⟨g, 0, none⟩) m cap)) 2 (.int .i32 0)
          have S1 := hide s1
          have K1 := hide hk1
          clear s1 l1 hk1 k2 k3 kf hcur
          have hmc : (m : Int) ≤ cap := by have := HN.out; omega
          clear hmd
          go_wp2
          go_meet
          case rel =>
            have hmd := HM.out
            have hnc := HN.out
            have hg2 : ((w1.setCell ⟨L, 3, none⟩ (.slice (some ⟨g, 0, none⟩) m cap)).setCell ⟨L, 2, none⟩ (.int .i32 0)).heap[g]? = some (.cells (cur.toList.take 0 ++ flat (xs.drop hd) ++ cur.toList.drop (0 + (flat (xs.drop hd)).length)).toArray 42 (0, 0)) := by
              rw [heap_setCell_other _ _ _ _ (by simpa using hgL), heap_setCell_other _ _ _ _ (by simpa using hgL)]; exact hg1.out
            have hO : ((w1.setCell ⟨L, 3, none⟩ (.slice (some ⟨g, 0, none⟩) m cap)).setCell ⟨L, 2, none⟩ (.int .i32 0)).ownsRow B 42 2 (.slice (some ⟨g, 0, none⟩) m cap) m (flat (xs.drop hd)) := by
              refine owns_mk hg2 hBg (by omega) hcap.2 (by simp [hfl]; omega) ?_
              simp only [List.take_zero, List.nil_append]
              rw [← hfl, List.take_left]
            refine ⟨0, m, cap, 0, xs.drop hd, S1.out, by rw [List.length_drop]; omega, Nat.zero_le _, by omega, by omega, rfl, fun j u hu => ?_, fun _ => ⟨rfl, hO⟩, ?_⟩
            · rw [Nat.zero_add, hO.cellAt j (by have := (List.getElem?_eq_some_iff.1 hu).1; rw [flat_length, List.length_drop] at this; omega)]; exact hu
            · exact (((hK1.drewN nq).drew.trans K1.out (fun i _ q => .inr q)).setCell _ (fun _ => .inl rfl) _).setCell _ (fun _ => .inl rfl) _
      · have hne : ¬ cap = hd := by have := HN.out; omega
        go_wp2
        go_quiet (fail)
        go_wp2
        refine wp_region_tail 12 (by kernel_rfl) (by kernel_rfl) ?_
        simp only [List.take_succ_cons, List.take_zero, List.drop_succ_cons, List.drop_zero]
        repeat (go_big_quiet_step (fail))
        refine wpQuiet_nil ?_
        go_wp2
        go_meet
        case rel =>
          have s1 := log_set (log_set FL.out 3 (.slice (some ⟨g, hd * 2, none⟩) (n - hd) (cap - hd))) 2 (.int .i32 0)
          have hnc := HN.out
          refine ⟨hd * 2, n - hd, cap - hd, 0, xs.drop hd, s1, by rw [List.length_drop]; omega, Nat.zero_le _, by omega, by omega, rfl, fun j u hu => ?_, fun q => by omega, ?_⟩
          · have hlt := (List.getElem?_eq_some_iff.1 hu).1
            rw [flat_length, List.length_drop] at hlt
            have hO := owns_other (owns_other FO.out ⟨L, 3, none⟩ (Ne.symm hgL) (.slice (some ⟨g, hd * 2, none⟩) (n - hd) (cap - hd))) ⟨L, 2, none⟩ (Ne.symm hgL) (.int .i32 0)
            have hc := hO.cellAt (hd * 2 + j) (by omega)
            rw [← List.getElem?_drop, ← flat_drop, hu] at hc
            exact hc
          · exact (((hK1.drewN nq).drew).setCell _ (fun _ => .inl rfl) _).setCell _ (fun _ => .inl rfl) _
    · have ht : ((n : Int) == (cap : Int)) = false := by simp; omega
      go_wp2
      go_meet
      case rel => exact ⟨0, n, cap, hd, xs, FL.out, hx, hhd, Nat.le_refl _, hcap.1, rfl, fun j u hu => by rw [Nat.zero_add, FO.out.cellAt j (by have := (List.getElem?_eq_some_iff.1 hu).1; rw [flat_length] at this; omega)]; exact hu, fun _ => ⟨rfl, FO.out⟩, hK1⟩
end Go.Proofs.Qxb6630764a
