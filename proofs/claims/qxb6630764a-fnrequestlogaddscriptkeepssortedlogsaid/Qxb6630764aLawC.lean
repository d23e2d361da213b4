import Derived.Test.Qxb6630764aMerge
import Derived.Test.Qxb6630764aLawA
namespace Go.Proofs.Qxb6630764a
open Go.RowKit Go.Sort

/-- WHAT THE WALK IS TOLD OF A SLICE OF REQUESTS THAT CAME IN. -/
def Reqs (w : World) (ao : Option Addr) (n : Nat) (ns rs : List (Int × Int)) : Prop :=
  ns.length = n ∧ rs.length = n ∧ (0 < n → ∃ b off, ao = some ⟨b, off, none⟩ ∧ ∀ i, i < n →
    w.cell? ⟨b, off + i * 4, none⟩ = some (.int .i64 (ns.getD i (0, 0)).1) ∧ w.cell? ⟨b, off + i * 4 + 1, none⟩ = some (.int .i32 (ns.getD i (0, 0)).2) ∧
    w.cell? ⟨b, off + i * 4 + 2, none⟩ = some (.int .i64 (rs.getD i (0, 0)).1) ∧ w.cell? ⟨b, off + i * 4 + 2 + 1, none⟩ = some (.int .i32 (rs.getD i (0, 0)).2))

theorem secsC_cell {w : World} {B g n cap : Nat} {e : TypeId} {xs : List (Int × Int)} (h : w.ownsRow B e 1 (.slice (some ⟨g, 0, none⟩) n cap) n (secs xs)) (hx : xs.length = n) (i : Nat) (hi : i < n) : w.cell? ⟨g, i, none⟩ = some (.int .i64 (xs.getD i (0, 0)).1) := by
  rw [h.cellAt i (by omega)]
  simp [secs, List.getD, show i < xs.length by omega]
theorem nsecsC_cell {w : World} {B g n cap : Nat} {e : TypeId} {xs : List (Int × Int)} (h : w.ownsRow B e 1 (.slice (some ⟨g, 0, none⟩) n cap) n (nsecs xs)) (hx : xs.length = n) (i : Nat) (hi : i < n) : w.cell? ⟨g, i, none⟩ = some (.int .i32 (xs.getD i (0, 0)).2) := by
  rw [h.cellAt i (by omega)]
  simp [nsecs, List.getD, show i < xs.length by omega]

set_option maxRecDepth 100000 in
set_option maxHeartbeats 1000000 in
theorem law2_early (ao : Option Addr) (n cap : Nat) (w : World) (hn : n ≤ maxLen) (he : 4096 < n) :
    Calls Try.prog 4 #[.slice ao n cap] w fun e w' => e = .returned (.bool true) ∧ Below w.heap.size w w' := by
  have hn' := hn
  unfold maxLen at hn'
  have c2 : (4096 : Int) < n := by omega
  by_cases c1 : 1048576 < n
  · have hd1 : decide (n ≤ 1048576) = false := by simp; omega
    go_enter Try.func4, Try.ntmps4
    go_wp2_with fail
    refine (bytes4_any _ _ _ _ hn).mono ?_
    rintro e w1 ⟨rfl, rfl⟩
    rw [hd1]
    go_wp2
    go_ret
    exact ⟨rfl, Below.refl _ _⟩
  have hd1 : decide (n ≤ 1048576) = true := by simp; omega
  go_enter Try.func4, Try.ntmps4
  go_wp2_with fail
  refine (bytes4_any _ _ _ _ hn).mono ?_
  rintro e w1 ⟨rfl, rfl⟩
  rw [hd1]
  go_wp2
  go_ret
  exact ⟨rfl, Below.refl _ _⟩

/-- The latest release so far. -/
def relTo (rs : List (Int × Int)) (k : Nat) : Int × Int := (rs.take k).foldl later (0, 0)

theorem relTo_succ (rs : List (Int × Int)) (k : Nat) (h : k < rs.length) : relTo rs (k + 1) = later (relTo rs k) (rs.getD k (0, 0)) := by
  unfold relTo
  rw [take_snoc rs k (0, 0) h, List.foldl_append]
  rfl

set_option maxRecDepth 100000 in
set_option maxHeartbeats 4000000 in
theorem law2_main (ao : Option Addr) (n cap : Nat) (ns rs : List (Int × Int)) (w : World) (hA : Reqs w ao n ns rs) (hn : n ≤ 4096) :
    Calls Try.prog 4 #[.slice ao n cap] w fun e w' => e = .returned (.bool true) ∧ Below w.heap.size w w' := by
  have hd1 : decide (n ≤ 1048576) = true := by simp; omega
  obtain ⟨hns, hrs, ha⟩ := hA
  have HA := hide ha
  have HNS := hide hns
  have HRS := hide hrs
  clear ha hns hrs
  have hmk := fun wx => make24m n n (Nat.le_refl _) (by omega) wx
  have H0 := hide ((owns_made w n n (Nat.le_refl _) (by omega) 24).alloc (.cells #[.int .i64 0, .int .i32 0] 24))
  generalize madeCells #[.int .i64 0, .int .i32 0] (n * 2) = mc at *
  go_enter Try.func4, Try.ntmps4
  go_wp2_with fail
  refine (bytes4_any _ _ _ _ (by unfold maxLen; omega)).mono ?_
  rintro e w1 ⟨rfl, hw1⟩
  subst hw1
  rw [hd1]
  clear hd1
  go_upto_block 0 with fail
  go_cut [] from 5 (fun w' => w'.ownsRow w1.heap.size 24 2 (.slice (some ⟨w1.heap.size, 0, none⟩) n n) n (flat ns) ∧ w'.heap[w1.heap.size + 1]? = some (.cells #[.int .i64 (relTo rs n).1, .int .i32 (relTo rs n).2] 24 (0, 0)) ∧ Below w1.heap.size w1 w')
  case rest =>
    revert wc
    intro w2 hcut
    obtain ⟨hoN, hW, hb2⟩ := hcut
    have hg2 : w1.heap.size + 1 < w2.heap.size := (Array.getElem?_eq_some_iff.1 hW).1
    have HON := hide hoN
    have HW := hide hW
    have HB2 := hide hb2
    clear hoN hW hb2 hmk H0
    go_wp2_with fail
    refine (msort_any n w1.heap.size 0 n n ns w2 (Nat.le_refl _) hn (Nat.le_refl _) HNS.out (by omega) (fun i hi => by
      have := inst_at HON.out HNS.out i hi
      rw [Nat.zero_add]; exact this)).mono ?_
    rintro e w3 ⟨g, ys, rfl, hperm, hsort, ho3, hb3⟩
    have hg3 := owns_lt ho3
    have hW3 : w3.heap[w1.heap.size + 1]? = some (.cells #[.int .i64 (relTo rs n).1, .int .i32 (relTo rs n).2] 24 (0, 0)) := (hb3.block _ hg2).trans HW.out
    have HP := hide hperm
    have HS := hide hsort
    have HO3 := hide ho3
    have HW3 := hide hW3
    have HB3 := hide (HB2.out.trans (hb3.mono HB2.out.size))
    have hs3 : w2.heap.size ≤ w3.heap.size := hb3.size
    clear hperm hsort ho3 hW3 hb3 HON HW HB2
    go_wp2_with fail
    refine (newLog_nil 0 0 0 w3).mono ?_
    rintro e w4 ⟨rfl, hL4, hO4, hb4⟩
    have HL4 := hide hL4
    have HO4 := hide hO4
    have HB4 := hide hb4
    have hs4 : w3.heap.size + 1 < w4.heap.size := (Array.getElem?_eq_some_iff.1 hL4).1
    clear hL4 hO4 hb4
    go_upto_block 2 with fail
    go_cut [] from 8 (fun w' => ∃ (g' n' cap' hd' : Nat) (xs' : List (Int × Int)), w'.heap[w3.heap.size + 1]? = some (.cells #[.int .i64 (relTo rs n).1, .int .i32 (relTo rs n).2, .int .i32 hd', .slice (some ⟨g', 0, none⟩) n' cap'] 44 (0, 0)) ∧
      w'.ownsRow w3.heap.size 42 2 (.slice (some ⟨g', 0, none⟩) n' cap') n' (flat xs') ∧ xs'.length = n' ∧ hd' ≤ n' ∧ n' ≤ n ∧ SortedP (xs'.drop hd') ∧ (xs'.drop hd').Perm ns ∧ Below w3.heap.size w3 w')
    case rest =>
      revert wc
      intro w5 hcut
      obtain ⟨g', n', cap', hd', xs', hL, hO, hx', hhd', hn', hso, hpe, hbel⟩ := hcut
      have heq : xs'.drop hd' = ys := sorted_unique hso HS.out (hpe.trans HP.out.symm)
      have hyl : ys.length = n := by rw [HP.out.length_eq]; exact HNS.out
      have hWn : n' = hd' + n := by have := congrArg List.length heq; rw [List.length_drop] at this; omega
      have hWg : ∀ k, xs'.getD (hd' + k) (0, 0) = ys.getD k (0, 0) := fun k => by rw [← heq]; simp [List.getD]
      have hW5 : w5.heap[w1.heap.size + 1]? = some (.cells #[.int .i64 (relTo rs n).1, .int .i32 (relTo rs n).2] 24 (0, 0)) := (hbel.block _ (by omega)).trans HW3.out
      have ho5 := owns_kept HO3.out ⟨hbel.os, hbel.tape, hbel.output, hbel.size, fun k _ hk => hbel.block k (by have hk' : ¬ w3.heap.size ≤ k := hk; omega)⟩ (by show ¬ w3.heap.size ≤ g; omega)
      have hb05 : Below w1.heap.size w1 w5 := HB3.out.trans (hbel.mono (by omega))
      generalize relTo rs n = lr at *
      have HL := hide hL
      have HO := hide hO
      have HX := hide hx'
      have HWG := hide hWg
      have HW5 := hide hW5
      have HO5 := hide ho5
      have HB5 := hide hb05
      have HYL := hide hyl
      have hs5 : w3.heap.size ≤ w5.heap.size := hbel.size
      clear hL hO hx' hso hpe hbel heq hyl hWg hW5 ho5 hb05 HL4 HO4 HB4 HW3 HO3 HB3 HP HS HA HNS HRS
      subst hWn
      go_wp2_with fail
      refine (fields_any w3.heap.size (w3.heap.size + 1) g' (hd' + n) cap' lr.1 lr.2 hd' xs' w5 HX.out (by omega) HL.out HO.out).mono ?_
      rintro e w6 ⟨rfl, hs6, hn6, hb6⟩
      have c6 : w6.heap[w1.heap.size + 1]? = some (.cells #[.int .i64 lr.1, .int .i32 lr.2] 24 (0, 0)) := (hb6.block _ (by omega)).trans HW5.out
      have ho6 := owns_kept HO5.out (Kept.of_below (bad := fun _ => False) hb6) (fun q => q)
      have hb06 : Below w1.heap.size w1 w6 := HB5.out.trans (hb6.mono HB5.out.size)
      have r1 : w6.cell? ⟨w1.heap.size + 1, 0, none⟩ = some (.int .i64 lr.1) := by rw [cell_of_row _ _ _ _ _ _ c6]; rfl
      have r2 : w6.cell? ⟨w1.heap.size + 1, 1, none⟩ = some (.int .i32 lr.2) := by rw [cell_of_row _ _ _ _ _ _ c6]; rfl
      have H12 := hide hs6
      have N12 := hide hn6
      have HO12 := hide ho6
      have HB12 := hide hb06
      clear hs6 hn6 hb6 c6 ho6 hb06 HW5 HO5 HB5 HL HO
      generalize w5.heap.size = S2 at *
      go_wp2_with fail
      clear r1 r2
      go_loopw [14] (fun i wr => ∃ k q : Nat, k ≤ n ∧ i = .int .i64 k ∧ wr = w6.drewN q) (fun i _ => n - (intOf i).toNat)
      case atStart => exact ⟨0, 0, Nat.zero_le _, rfl, rfl⟩
      case round =>
        obtain ⟨k, q, hk, rfl, rfl⟩ := hrel
        by_cases hlt : k < n
        · have t1 := secsC_cell H12.out HX.out (hd' + k) (by omega)
          have t2 := nsecsC_cell N12.out HX.out (hd' + k) (by omega)
          obtain ⟨t3, t4⟩ := inst_at HO12.out HYL.out k hlt
          rw [HWG.out k] at t1 t2
          generalize ys.getD k (0, 0) = p at *
          go_wp2_with fail
          go_quiet (fail)
          go_wp2_with fail
          go_roundw
          case rel => exact ⟨k + 1, q + nq, by omega, by go_num, rfl⟩
          case measure => simp [intOf]; omega
        · go_wp2_with fail
          go_ret
          exact ⟨rfl, HB12.out.os, HB12.out.tape, HB12.out.output, HB12.out.size, HB12.out.block⟩
    case first =>
      go_wp2_with fail
      go_loopw [8] (fun i wr => ∃ (k g' n' cap' hd' : Nat) (xs' : List (Int × Int)), k ≤ n ∧ i = .int .i64 k ∧ wr.heap[w3.heap.size + 1]? = some (.cells #[.int .i64 (relTo rs k).1, .int .i32 (relTo rs k).2, .int .i32 hd', .slice (some ⟨g', 0, none⟩) n' cap'] 44 (0, 0)) ∧
        wr.ownsRow w3.heap.size 42 2 (.slice (some ⟨g', 0, none⟩) n' cap') n' (flat xs') ∧ xs'.length = n' ∧ hd' ≤ n' ∧ n' ≤ k ∧ SortedP (xs'.drop hd') ∧ (xs'.drop hd').Perm (ns.take k) ∧ Below w3.heap.size w3 wr) (fun i _ => n - (intOf i).toNat)
      case atStart => exact ⟨0, w3.heap.size, 0, 0, 0, [], Nat.zero_le _, rfl, HL4.out, HO4.out, rfl, Nat.le_refl _, Nat.le_refl _, List.Pairwise.nil, by simp, HB4.out⟩
      case round =>
        obtain ⟨k, g', n', cap', hd', xs', hk, rfl, hL, hO, hx', hhd', hn', hso, hpe, hbel⟩ := hrel
        have HL := hide hL
        have HO := hide hO
        have HX := hide hx'
        have HSO := hide hso
        have HPE := hide hpe
        have HB := hide hbel
        clear hL hO hx' hso hpe hbel
        by_cases hlt : k < n
        · obtain ⟨b, off, rfl, hc⟩ := HA.out (by omega)
          obtain ⟨c1, c2, c3, c4⟩ := hc k hlt
          have hblt : b < w1.heap.size := block_lt_of_cell c1
          have old : ∀ j, wr.cell? ⟨b, j, none⟩ = w1.cell? ⟨b, j, none⟩ := fun j => (HB.out.cell (p := ⟨b, j, none⟩) (by show b < _; omega)).trans (HB3.out.cell (p := ⟨b, j, none⟩) hblt)
          have d1 := (old _).trans c1
          have d2 := (old _).trans c2
          have d3 := (old _).trans c3
          have d4 := (old _).trans c4
          have hrel := relTo_succ rs k (by have := HRS.out; omega)
          have ets := take_snoc ns k (0, 0) (by have := HNS.out; omega)
          generalize ns.getD k (0, 0) = p at *
          generalize rs.getD k (0, 0) = q at *
          generalize relTo rs k = t at *
          have HREL := hide hrel
          have HTS := hide ets
          clear hrel ets c1 c2 c3 c4 old hc
          go_wp2_with fail
          refine wp_region_tail 25 (by kernel_rfl) (by kernel_rfl) ?_
          simp only [List.take_succ_cons, List.take_zero, List.drop_succ_cons, List.drop_zero]
          repeat (go_big_quiet_step (fail))
          refine wpQuiet_nil ?_
          go_wp2_with fail
          have hgS := (owns_lt HO.out).1
          have hSw : w3.heap.size ≤ wr.heap.size := HB.out.size
          refine (zzadd_any w3.heap.size (w3.heap.size + 1) g' n' cap' hd' t.1 t.2 p.1 p.2 q.1 q.2 xs' wr.drew HL.out HO.out HX.out hhd' (by omega) (by omega)).mono ?_
          rintro e w5 ⟨rfl, g2, n2, cap2, hd2, xs2, hL5, hO5, hx5, hhd5, hn5, hins, hk5, hgg⟩
          have er : later (t.1, t.2) (q.1, q.2) = relTo rs (k + 1) := HREL.out.symm
          rw [er] at hL5
          have hso5 := ins_sorted HSO.out hins
          have hpe5 : (xs2.drop hd2).Perm (ns.take (k + 1)) := by
            rw [HTS.out]
            exact (ins_perm hins).trans ((List.Perm.cons _ HPE.out).trans (List.perm_append_comm (l₁ := [p])))
          have hb5 : Below w3.heap.size w3 w5 := HB.out.drew.trans (hk5.below w3.heap.size (by show _ ≤ wr.heap.size; omega) (fun j hj q => by have q' : j = w3.heap.size + 1 ∨ j = g' := q; omega))
          have HL5 := hide hL5
          have HO5 := hide hO5
          have HS5 := hide hso5
          have HP5 := hide hpe5
          have HB5 := hide hb5
          have HX5 := hide hx5
          clear hL5 hO5 hso5 hpe5 hb5 hins hk5 er hx5 d1 d2 d3 d4
          go_wp2_with fail
          go_roundw
          case rel => exact ⟨k + 1, g2, n2, cap2, hd2, xs2, by omega, by go_num, HL5.out, HO5.out, HX5.out, hhd5, by omega, HS5.out, HP5.out, HB5.out⟩
          case measure => simp [intOf]; omega
        · have hkn : k = n := by omega
          subst hkn
          go_wp2_with fail
          go_meet
          case rel =>
            have hp := HPE.out
            rw [List.take_of_length_le (by have := HNS.out; omega)] at hp
            exact ⟨g', n', cap', hd', xs', HL.out, HO.out, HX.out, hhd', hn', HSO.out, hp, HB.out⟩
  case first =>
    clear hmk
    go_wp2_with fail
    go_loopw [5] (fun i wr => ∃ k : Nat, k ≤ n ∧ i = .int .i64 k ∧ wr.ownsRow w1.heap.size 24 2 (.slice (some ⟨w1.heap.size, 0, none⟩) n n) n (flat (ns.take k ++ List.replicate (n - k) (0, 0))) ∧
      wr.heap[w1.heap.size + 1]? = some (.cells #[.int .i64 (relTo rs k).1, .int .i32 (relTo rs k).2] 24 (0, 0)) ∧ Below w1.heap.size w1 wr) (fun i _ => n - (intOf i).toNat)
    case atStart => exact ⟨0, Nat.zero_le _, rfl, by simpa using H0.out, by simpa [relTo] using heap_alloc2_new w1 _ _, ((Below.refl _ _).alloc (Nat.le_refl _) _).alloc (by simp) _⟩
    case round =>
      obtain ⟨k, hk, rfl, hown, hW, hbel⟩ := hrel
      by_cases hlt : k < n
      · obtain ⟨b, off, rfl, hc⟩ := HA.out (by omega)
        obtain ⟨c1, c2, c3, c4⟩ := hc k hlt
        have hblt : b < w1.heap.size := block_lt_of_cell c1
        have old : ∀ j, wr.cell? ⟨b, j, none⟩ = w1.cell? ⟨b, j, none⟩ := fun j => hbel.cell (p := ⟨b, j, none⟩) hblt
        have d1 := (old _).trans c1
        have d2 := (old _).trans c2
        have d3 := (old _).trans c3
        have d4 := (old _).trans c4
        have hlen : (ns.take k ++ List.replicate (n - k) (0, 0)).length = n := by have := HNS.out; simp; omega
        obtain ⟨e3, e4⟩ := inst_at hown hlen k hlt
        have f3 : ∀ j, wr.frozen? ⟨w1.heap.size, j, none⟩ = false := fun j => hown.frozenAt j
        have e := fill_set ns (0, 0) (0, 0) k n HNS.out hlt
        have R := inst_set hown k (ns.getD k (0, 0))
        rw [e] at R
        have hrel := relTo_succ rs k (by have := HRS.out; omega)
        generalize ns.getD k (0, 0) = p at *
        generalize rs.getD k (0, 0) = q at *
        generalize (ns.take k ++ List.replicate (n - k) (0, 0)).getD k (0, 0) = z at *
        generalize relTo rs k = t at *
        have HR := hide R
        have HREL := hide hrel
        have HW := hide hW
        have i1 : wr.cell? ⟨w1.heap.size + 1, 0, none⟩ = some (.int .i64 t.1) := by rw [cell_of_row _ _ _ _ _ _ hW]; rfl
        have i2 : wr.cell? ⟨w1.heap.size + 1, 1, none⟩ = some (.int .i32 t.2) := by rw [cell_of_row _ _ _ _ _ _ hW]; rfl
        have i3 : ∀ j, wr.frozen? ⟨w1.heap.size + 1, j, none⟩ = false := fun j => frozen_of_row wr _ j _ 24 hW
        have hws : w1.heap.size + 1 < wr.heap.size := (Array.getElem?_eq_some_iff.1 hW).1
        clear R e hown c1 c2 c3 c4 old hc hrel hW
        go_wp2_with fail
        have hW3 : ((wr.setCell ⟨w1.heap.size, k * 2, none⟩ (.int .i64 p.1)).setCell ⟨w1.heap.size, k * 2 + 1, none⟩ (.int .i32 p.2)).heap[w1.heap.size + 1]? = some (.cells #[.int .i64 t.1, .int .i32 t.2] 24 (0, 0)) := by
          rw [heap_setCell_other _ _ _ _ (by simp), heap_setCell_other _ _ _ _ (by simp)]; exact HW.out
        have hb3 : Below w1.heap.size w1 ((wr.setCell ⟨w1.heap.size, k * 2, none⟩ (.int .i64 p.1)).setCell ⟨w1.heap.size, k * 2 + 1, none⟩ (.int .i32 p.2)) := (hbel.setCell (Nat.le_refl _) _).setCell (Nat.le_refl _) _
        have g3 : ((wr.setCell ⟨w1.heap.size, k * 2, none⟩ (.int .i64 p.1)).setCell ⟨w1.heap.size, k * 2 + 1, none⟩ (.int .i32 p.2)).cell? ⟨b, off + k * 4 + 2, none⟩ = some (.int .i64 q.1) := by
          rw [(((Below.refl w1.heap.size wr).setCell (Nat.le_refl _) _).setCell (Nat.le_refl _) _).cell (p := ⟨b, _, none⟩) hblt]; exact d3
        have g4 : ((wr.setCell ⟨w1.heap.size, k * 2, none⟩ (.int .i64 p.1)).setCell ⟨w1.heap.size, k * 2 + 1, none⟩ (.int .i32 p.2)).cell? ⟨b, off + k * 4 + 2 + 1, none⟩ = some (.int .i32 q.2) := by
          rw [(((Below.refl w1.heap.size wr).setCell (Nat.le_refl _) _).setCell (Nat.le_refl _) _).cell (p := ⟨b, _, none⟩) hblt]; exact d4
        clear d1 d2 d3 d4 e3 e4 f3 i1 i2 i3 HW hbel
        generalize (wr.setCell ⟨w1.heap.size, k * 2, none⟩ (.int .i64 p.1)).setCell ⟨w1.heap.size, k * 2 + 1, none⟩ (.int .i32 p.2) = w3 at *
        have i1 : w3.cell? ⟨w1.heap.size + 1, 0, none⟩ = some (.int .i64 t.1) := by rw [cell_of_row _ _ _ _ _ _ hW3]; rfl
        have i2 : w3.cell? ⟨w1.heap.size + 1, 1, none⟩ = some (.int .i32 t.2) := by rw [cell_of_row _ _ _ _ _ _ hW3]; rfl
        have hws3 : w1.heap.size + 1 < w3.heap.size := (Array.getElem?_eq_some_iff.1 hW3).1
        have HW3 := hide hW3
        have HB3 := hide hb3
        clear hW3 hb3
        refine wp_region_tail 6 (by kernel_rfl) (by kernel_rfl) ?_
        simp only [List.take_succ_cons, List.take_zero, List.drop_succ_cons, List.drop_zero]
        repeat (go_big_quiet_step (fail))
        refine wpQuiet_nil ?_
        go_wp2_with fail
        refine (later_any _ _ _ _ _).mono ?_
        rintro e w4 ⟨rfl, hb4⟩
        have hW4 : w4.heap[w1.heap.size + 1]? = some (.cells #[.int .i64 t.1, .int .i32 t.2] 24 (0, 0)) := (hb4.block _ hws3).trans HW3.out
        have ho4 := owns_kept HR.out (Kept.of_below (w := w3) (w' := w4) (bad := fun _ => False) ⟨hb4.os, hb4.tape, hb4.output, hb4.size, hb4.block⟩) (fun q => q)
        have hb04 : Below w1.heap.size w1 w4 := HB3.out.trans ⟨hb4.os, hb4.tape, hb4.output, hb4.size, fun j hj => hb4.block j (by show j < w3.heap.size; omega)⟩
        have j1 : w4.cell? ⟨w1.heap.size + 1, 0, none⟩ = some (.int .i64 t.1) := by rw [cell_of_row _ _ _ _ _ _ hW4]; rfl
        have j2 : w4.cell? ⟨w1.heap.size + 1, 1, none⟩ = some (.int .i32 t.2) := by rw [cell_of_row _ _ _ _ _ _ hW4]; rfl
        have j3 : ∀ j, w4.frozen? ⟨w1.heap.size + 1, j, none⟩ = false := fun j => frozen_of_row w4 _ j _ 24 hW4
        generalize hl : later (t.1, t.2) (q.1, q.2) = lr at *
        have hl' : relTo rs (k + 1) = lr := HREL.out
        have s4 : ((w4.setCell ⟨w1.heap.size + 1, 0, none⟩ (.int .i64 lr.1)).setCell ⟨w1.heap.size + 1, 1, none⟩ (.int .i32 lr.2)).heap[w1.heap.size + 1]? = some (.cells #[.int .i64 lr.1, .int .i32 lr.2] 24 (0, 0)) := by
          have h1 := heap_setCell_same w4 (w1.heap.size + 1) 0 _ 24 (.int .i64 lr.1) hW4
          have h2 := heap_setCell_same _ (w1.heap.size + 1) 1 _ 24 (.int .i32 lr.2) h1
          exact h2
        have o4 := owns_other (owns_other ho4 ⟨w1.heap.size + 1, 0, none⟩ (by simp) (.int .i64 lr.1)) ⟨w1.heap.size + 1, 1, none⟩ (by simp) (.int .i32 lr.2)
        have S4 := hide s4
        have O4 := hide o4
        have HB4 := hide hb04
        have HL := hide hl'
        clear s4 o4 hb04 hl hl' hb4 hW4 ho4 HREL HR
        go_wp2_with fail
        go_roundw
        case rel => exact ⟨k + 1, by omega, by go_num, O4.out, by rw [HL.out]; exact S4.out, (HB4.out.setCell (by simp) _).setCell (by simp) _⟩
        case measure => simp [intOf]; omega
      · have hkn : k = n := by omega
        subst hkn
        rw [List.take_of_length_le (by have := HNS.out; omega), Nat.sub_self, List.replicate_zero, List.append_nil] at hown
        go_wp2_with fail
        go_meet
        case rel => exact ⟨hown, hW, hbel⟩
end Go.Proofs.Qxb6630764a
