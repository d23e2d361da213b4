import Derived.Test.Qxb6630764aLawA
namespace Go.Proofs.Qxb6630764a
open Go.RowKit Go.Sort

theorem Try.info24 : (Try.prog.info? 24).map (fun i => (i.zero, i.size, i.bytes)) = some (some (.agg #[.int .i64 0, .int .i32 0]), 2, 16) := by kernel_rfl

/-- 'make([]Inst, 0, m+1)'. -/
theorem make24 (m : Nat) (hc : m ≤ 65536) (w : World) :
    (Instr.makeSlice 22 (.int .i64 0) (.int .i64 ((m : Int) + 1))).run Try.prog w = .ok (.slice (some ⟨w.heap.size, 0, none⟩) 0 (m + 1)) (w.alloc (.cells (madeCells #[.int .i64 0, .int .i32 0] ((m + 1) * 2)) 24)) := by
  obtain ⟨i, hi, hz, hs, hb⟩ := info_parts Try.info24
  have := run_make (P := Try.prog) w 22 24 i _ Try.underlying22 hi hz .i64 .i64 0 ((m + 1 : Nat) : Int) (by omega) (by omega) (by rw [hb]; omega) (by omega)
  rw [hs] at this
  simpa [Value.cells] using this

/-- The model's list, built so far. -/
def wantTo (live : List (Int × Int)) (now : Int × Int) (p j : Nat) : List (Int × Int) := live.take p ++ now :: (live.drop p).take (j - p)

theorem wantTo_start (live : List (Int × Int)) (now : Int × Int) (p : Nat) : live.take p ++ [now] = wantTo live now p p := by simp [wantTo]

theorem wantTo_succ (live : List (Int × Int)) (now : Int × Int) (p j : Nat) (h : p ≤ j) (hj : j < live.length) : wantTo live now p j ++ [live.getD j (0, 0)] = wantTo live now p (j + 1) := by
  unfold wantTo
  have e : (live.drop p).take (j + 1 - p) = (live.drop p).take (j - p) ++ [live.getD j (0, 0)] := by
    rw [show j + 1 - p = (j - p) + 1 by omega, take_snoc _ _ (0, 0) (by rw [List.length_drop]; omega)]
    congr 2
    simp [List.getD, show p + (j - p) = j by omega]
  rw [e]
  simp

theorem wantTo_done (live : List (Int × Int)) (now : Int × Int) (p m : Nat) (hm : m = live.length) : wantTo live now p m = live.take p ++ now :: live.drop p := by
  unfold wantTo
  rw [List.take_of_length_le (l := live.drop p) (by rw [List.length_drop]; omega)]

theorem secs_cell {w : World} {B g n cap : Nat} {e : TypeId} {xs : List (Int × Int)} (h : w.ownsRow B e 1 (.slice (some ⟨g, 0, none⟩) n cap) n (secs xs)) (hx : xs.length = n) (i : Nat) (hi : i < n) : w.cell? ⟨g, i, none⟩ = some (.int .i64 (xs.getD i (0, 0)).1) := by
  rw [h.cellAt i (by omega)]
  simp [secs, List.getD, show i < xs.length by omega]
theorem nsecs_cell {w : World} {B g n cap : Nat} {e : TypeId} {xs : List (Int × Int)} (h : w.ownsRow B e 1 (.slice (some ⟨g, 0, none⟩) n cap) n (nsecs xs)) (hx : xs.length = n) (i : Nat) (hi : i < n) : w.cell? ⟨g, i, none⟩ = some (.int .i32 (xs.getD i (0, 0)).2) := by
  rw [h.cellAt i (by omega)]
  simp [nsecs, List.getD, show i < xs.length by omega]

set_option maxRecDepth 100000 in
set_option maxHeartbeats 4000000 in
theorem law1_main (rs rn : Int) (hd : Nat) (ao : Option Addr) (n cap sp : Nat) (a1 a2 b1 b2 : Int) (xs : List (Int × Int)) (w : World) (hA : Arr w ao n xs) (hn : n ≤ 65536) (hsp : sp ≤ 65536) (hhd : hd ≤ n) :
    Calls Try.prog 3 #[.int .i64 rs, .int .i32 rn, .int .i32 hd, .slice ao n cap, .int .i64 sp, .agg #[.int .i64 a1, .int .i32 a2], .agg #[.int .i64 b1, .int .i32 b2]] w fun e w' => e = .returned (.bool true) ∧ Below w.heap.size w w' := by
  have hd1 : decide (n ≤ 1048576) = true := by simp; omega
  have hx := hA.1
  have HA := hide hA.2
  clear hA
  go_enter Try.func3, Try.ntmps3
  go_wp2_with fail
  refine (bytes3_any _ _ _ _ _ _ _ _ _ _ _ _ (by unfold maxLen; omega)).mono ?_
  rintro e w1 ⟨rfl, hbel⟩
  rw [hd1]
  have q4 : w1.heap[w.heap.size]? = some (.cells #[.int .i64 a1, .int .i32 a2] 24 (0, 0)) := (hbel.block _ (by simp; omega)).trans (heap_alloc2_old w _ _)
  have q5 : w1.heap[w.heap.size + 1]? = some (.cells #[.int .i64 b1, .int .i32 b2] 24 (0, 0)) := (hbel.block _ (by simp)).trans (heap_alloc2_new w _ _)
  have hb0 : Below w.heap.size w w1 := (((Below.refl _ w).alloc (Nat.le_refl _) _).alloc (by simp) _).trans (hbel.mono (by simp; omega))
  have hw1 : w.heap.size + 1 + 1 ≤ w1.heap.size := by have := hbel.size; simpa using this
  have Q4 := hide q4
  have Q5 := hide q5
  clear q4 q5 hbel hd1
  go_upto_block 0 with fail
  go_cut [14] from 15 (fun r w' => r = .bool false ∧ Sorted (xs.drop hd) ∧ Below w1.heap.size w1 w')
  case rest =>
    as_aux_lemma =>
      revert wc
      intro w2 hcut
      obtain ⟨rfl, hsort, hbel⟩ := hcut
      have q4 : w2.heap[w.heap.size]? = some (.cells #[.int .i64 a1, .int .i32 a2] 24 (0, 0)) := (hbel.block _ (by omega)).trans Q4.out
      have q5 : w2.heap[w.heap.size + 1]? = some (.cells #[.int .i64 b1, .int .i32 b2] 24 (0, 0)) := (hbel.block _ (by omega)).trans Q5.out
      have hb2 : Below w.heap.size w w2 := hb0.trans (hbel.mono (by omega))
      have hw2 : w.heap.size + 1 + 1 ≤ w2.heap.size := by have := hbel.size; omega
      clear Q4 Q5 hb0 hw1 hbel
      have Q4 := hide q4
      have Q5 := hide q5
      have HSO := hide hsort
      clear q4 q5 hsort
      clear w1
      obtain ⟨m, hm⟩ : ∃ m, hd + m = n := ⟨n - hd, by omega⟩
      have HM := hide hm
      clear hm
      have hmk1 := fun wx => make2 n (by omega) wx
      have hmk2 := fun wx => make21 n (by omega) wx
      have a1' := owns_zeros w2 (.int .i64 0) n 2 (by omega)
      have a2' := owns_zeros (w2.alloc (.cells (zeros (.int .i64 0) n) 2)) (.int .i32 0) n 21 (by omega)
      have HA1 := hide (a1'.alloc (.cells (zeros (.int .i32 0) n) 21))
      have HA2 := hide a2'
      clear a1' a2'
      go_upto_block 2 with fail
      go_cut [] from 19 (fun w' => w'.ownsRow w2.heap.size 2 1 (.slice (some ⟨w2.heap.size, 0, none⟩) n n) n (secs xs) ∧ w'.ownsRow w2.heap.size 21 1 (.slice (some ⟨w2.heap.size + 1, 0, none⟩) n n) n (nsecs xs) ∧ Below w2.heap.size w2 w')
      case rest =>
        as_aux_lemma =>
          revert wc
          intro w3 hcut
          obtain ⟨hos, hon, hbel⟩ := hcut
          have q4 : w3.heap[w.heap.size]? = some (.cells #[.int .i64 a1, .int .i32 a2] 24 (0, 0)) := (hbel.block _ (by omega)).trans Q4.out
          have q5 : w3.heap[w.heap.size + 1]? = some (.cells #[.int .i64 b1, .int .i32 b2] 24 (0, 0)) := (hbel.block _ (by omega)).trans Q5.out
          have hb3 : Below w.heap.size w w3 := hb2.trans (hbel.mono (by omega))
          have hw3 : w2.heap.size + 1 < w3.heap.size := (owns_lt hon).2
          clear Q4 Q5 hb2 hbel HA1 HA2 hmk1 hmk2
          have Q4 := hide q4
          have Q5 := hide q5
          have HOS := hide hos
          have HON := hide hon
          clear q4 q5 hos hon
          generalize hgs : w2.heap.size = gs at *
          have hgs2 : w.heap.size + 1 + 1 ≤ gs := hw2
          clear hgs hw2
          have hml : m = (xs.drop hd).length := by have := HM.out; rw [List.length_drop]; omega
          have HML := hide hml
          clear hml
          have hm1 : (n : Int) - (hd : Int) = (m : Int) := by have := HM.out; omega
          have HM1 := hide hm1
          clear hm1
          go_upto_block 4 with fail
          go_cut [20, 21] from 22 (fun s p w' => s = .int .i64 m ∧ p = .int .i64 (cnt (a1, a2) (xs.drop hd)) ∧ Below w3.heap.size w3 w')
          case rest =>
            as_aux_lemma =>
              revert wc
              intro w4 hcut
              obtain ⟨rfl, rfl, hbel⟩ := hcut
              have q4 : w4.heap[w.heap.size]? = some (.cells #[.int .i64 a1, .int .i32 a2] 24 (0, 0)) := (hbel.block _ (by omega)).trans Q4.out
              have q5 : w4.heap[w.heap.size + 1]? = some (.cells #[.int .i64 b1, .int .i32 b2] 24 (0, 0)) := (hbel.block _ (by omega)).trans Q5.out
              have hb4 : Below w.heap.size w w4 := hb3.trans (hbel.mono (by omega))
              have hos := owns_kept HOS.out (Kept.of_below (bad := fun _ => False) hbel) (fun q => q)
              have hon := owns_kept HON.out (Kept.of_below (bad := fun _ => False) hbel) (fun q => q)
              have hw4 : gs + 1 < w4.heap.size := (owns_lt hon).2
              clear Q4 Q5 hb3 hbel HOS HON
              have Q4 := hide q4
              have Q5 := hide q5
              have HOS := hide hos
              have HON := hide hon
              clear q4 q5 hos hon hw3
              clear w3
              have hpc : cnt (a1, a2) (xs.drop hd) ≤ m := by rw [HML.out]; exact cnt_le _ _
              generalize hcn : cnt (a1, a2) (xs.drop hd) = pc at *
              have HCN := hide hcn
              clear hcn
              obtain ⟨live, hlv⟩ : ∃ live, live = xs.drop hd := ⟨_, rfl⟩
              rw [← hlv] at HML HSO HCN
              have hlg : ∀ j, live.getD j (0, 0) = xs.getD (hd + j) (0, 0) := fun j => by rw [hlv]; simp [List.getD]
              have HLG := hide hlg
              have HLV := hide hlv
              clear hlg hlv
              have hmn : m ≤ 65536 := by have := HM.out; omega
              have hmk := fun wx => make24 m hmn wx
              have h0 : (w4.alloc (.cells (madeCells #[.int .i64 0, .int .i32 0] ((m + 1) * 2)) 24)).ownsRow w4.heap.size 24 2 (.slice (some ⟨w4.heap.size, 0, none⟩) 0 (m + 1)) 0 (flat []) := by
                simpa using owns_made w4 0 (m + 1) (by omega) (by omega) 24
              generalize madeCells #[.int .i64 0, .int .i32 0] ((m + 1) * 2) = mc at *
              have H0 := hide h0
              clear h0
              obtain ⟨i0, hi0, hz0, hz1, hz2⟩ := info_parts Try.info24
              go_upto_block 6 with fail
              go_cut [23] from 24 (fun v w' => v = .slice (some ⟨w4.heap.size, 0, none⟩) pc (m + 1) ∧ w'.ownsRow w4.heap.size 24 2 (.slice (some ⟨w4.heap.size, 0, none⟩) pc (m + 1)) pc (flat (live.take pc)) ∧ Below w4.heap.size w4 w')
              case rest =>
                as_aux_lemma =>
                  revert wc
                  intro w5 hcut
                  obtain ⟨rfl, ho, hbel⟩ := hcut
                  have q4 : w5.heap[w.heap.size]? = some (.cells #[.int .i64 a1, .int .i32 a2] 24 (0, 0)) := (hbel.block _ (by omega)).trans Q4.out
                  have m4 : w5.cell? ⟨w.heap.size, 0, none⟩ = some (.int .i64 a1) := by rw [cell_of_row _ _ _ _ _ _ q4]; rfl
                  have m5 : w5.cell? ⟨w.heap.size, 1, none⟩ = some (.int .i32 a2) := by rw [cell_of_row _ _ _ _ _ _ q4]; rfl
                  have hw5 : w4.heap.size ≤ w5.heap.size := hbel.size
                  have HO := hide ho
                  clear ho q4 hmk H0
                  go_wp2_with (at_builtin; refine wpList_append_fits _ rfl (.tmp 145) (.tmp 147) 22 rfl w4.heap.size 24 i0 2 Try.underlying22 hi0 hz1 w4.heap.size pc (m + 1) (flat (live.take pc)) rfl (HO.out.alloc _) ⟨w5.heap.size, 0, none⟩ 1 1 (flat [(a1, a2)]) rfl rfl (new_cells w5 (a1, a2) 24) (flat_one _) (by omega) ?_)
                  intro w6 ho6 hg6
                  rw [← flat_append, wantTo_start] at ho6
                  have hb6 : Below w4.heap.size w4 w6 := (hbel.alloc hw5 _).grown hg6 (by simp; omega) (fun k hk => by cases hk; exact Nat.le_refl _)
                  have HO6 := hide ho6
                  have HB6 := hide hb6
                  clear ho6 hb6 hg6 m4 m5 HO hbel hw5
                  go_upto_block 8 with fail
                  go_cut [23] from 24 (fun v w' => v = .slice (some ⟨w4.heap.size, 0, none⟩) (m + 1) (m + 1) ∧ w'.ownsRow w4.heap.size 24 2 (.slice (some ⟨w4.heap.size, 0, none⟩) (m + 1) (m + 1)) (m + 1) (flat (live.take pc ++ (a1, a2) :: live.drop pc)) ∧ Below w4.heap.size w4 w')
                  case rest =>
                    as_aux_lemma =>
                      revert wc
                      intro w7 hcut
                      obtain ⟨rfl, ho, hbel⟩ := hcut
                      have q4 : w7.heap[w.heap.size]? = some (.cells #[.int .i64 a1, .int .i32 a2] 24 (0, 0)) := (hbel.block _ (by omega)).trans Q4.out
                      have q5 : w7.heap[w.heap.size + 1]? = some (.cells #[.int .i64 b1, .int .i32 b2] 24 (0, 0)) := (hbel.block _ (by omega)).trans Q5.out
                      have hb7 : Below w.heap.size w w7 := hb4.trans (hbel.mono (by omega))
                      have hos : w7.ownsRow gs 2 1 (.slice (some ⟨gs, 0, none⟩) n n) n (secs xs) := owns_kept HOS.out ⟨hbel.os, hbel.tape, hbel.output, hbel.size, fun k _ hk => hbel.block k (by have hk' : ¬ w4.heap.size ≤ k := hk; omega)⟩ (by show ¬ w4.heap.size ≤ gs; omega)
                      have hon : w7.ownsRow gs 21 1 (.slice (some ⟨gs + 1, 0, none⟩) n n) n (nsecs xs) := owns_kept HON.out ⟨hbel.os, hbel.tape, hbel.output, hbel.size, fun k _ hk => hbel.block k (by have hk' : ¬ w4.heap.size ≤ k := hk; omega)⟩ (by show ¬ w4.heap.size ≤ gs + 1; omega)
                      clear Q4 Q5 HOS HON hbel HO6 HB6 hb4
                      generalize hgw : w4.heap.size = gw at *
                      clear hgw
                      have hgw7 : gw < w7.heap.size := (owns_lt ho).2
                      have m6 : w7.cell? ⟨w.heap.size + 1, 0, none⟩ = some (.int .i64 b1) := by rw [cell_of_row _ _ _ _ _ _ q5]; rfl
                      have m7 : w7.cell? ⟨w.heap.size + 1, 1, none⟩ = some (.int .i32 b2) := by rw [cell_of_row _ _ _ _ _ _ q5]; rfl
                      have Q4 := hide q4
                      have Q5 := hide q5
                      have HOS := hide hos
                      have HON := hide hon
                      have HO := hide ho
                      clear q4 q5 hos hon ho
                      go_wp2_with fail
                      refine (later_any _ _ _ _ _).mono ?_
                      rintro e w8 ⟨rfl, hb8⟩
                      have s8 : gw < w8.heap.size := by have := hb8.size; omega
                      have HB8 := hide hb8
                      clear hb8 m6 m7
                      generalize hlt : later (rs, rn) (b1, b2) = lr at *
                      have HLT := hide hlt
                      clear hlt
                      go_wp2_with fail
                      have hb79 : Below w7.heap.size w7 (w8.alloc (.cells #[.int .i64 lr.1, .int .i32 lr.2] 24)) := HB8.out.alloc HB8.out.size _
                      have c9 : (w8.alloc (.cells #[.int .i64 lr.1, .int .i32 lr.2] 24)).heap[w8.heap.size]? = some (.cells #[.int .i64 lr.1, .int .i32 lr.2] 24 (0, 0)) := heap_alloc_new w8 _
                      have s9 : (w8.alloc (.cells #[.int .i64 lr.1, .int .i32 lr.2] 24)).heap.size = w8.heap.size + 1 := by simp
                      have s8' : w7.heap.size ≤ w8.heap.size := HB8.out.size
                      clear HB8
                      generalize w8.alloc (.cells #[.int .i64 lr.1, .int .i32 lr.2] 24) = w9 at *
                      have hgr : w8.heap.size < w9.heap.size := by omega
                      have hgr2 : w7.heap.size ≤ w8.heap.size := s8'
                      clear s9 s8 s8'
                      generalize w8.heap.size = gr at *
                      have hos9 := owns_kept HOS.out (Kept.of_below (bad := fun _ => False) hb79) (fun q => q)
                      have hon9 := owns_kept HON.out (Kept.of_below (bad := fun _ => False) hb79) (fun q => q)
                      refine (newLog_any rs rn hd gs (gs + 1) n n n sp xs w9 hx hn hsp (fun i hi => secs_cell hos9 hx i hi) (fun i hi => nsecs_cell hon9 hx i hi)).mono ?_
                      rintro e w10 ⟨rfl, hL10, hO10, hb10⟩
                      have hb710 : Below w7.heap.size w7 w10 := hb79.trans (hb10.mono hb79.size)
                      have p4 : w10.heap[w.heap.size]? = some (.cells #[.int .i64 a1, .int .i32 a2] 24 (0, 0)) := (hb710.block _ (by omega)).trans Q4.out
                      have p5 : w10.heap[w.heap.size + 1]? = some (.cells #[.int .i64 b1, .int .i32 b2] 24 (0, 0)) := (hb710.block _ (by omega)).trans Q5.out
                      have m4 : w10.cell? ⟨w.heap.size, 0, none⟩ = some (.int .i64 a1) := by rw [cell_of_row _ _ _ _ _ _ p4]; rfl
                      have m5 : w10.cell? ⟨w.heap.size, 1, none⟩ = some (.int .i32 a2) := by rw [cell_of_row _ _ _ _ _ _ p4]; rfl
                      have m6 : w10.cell? ⟨w.heap.size + 1, 0, none⟩ = some (.int .i64 b1) := by rw [cell_of_row _ _ _ _ _ _ p5]; rfl
                      have m7 : w10.cell? ⟨w.heap.size + 1, 1, none⟩ = some (.int .i32 b2) := by rw [cell_of_row _ _ _ _ _ _ p5]; rfl
                      have c10 : w10.heap[gr]? = some (.cells #[.int .i64 lr.1, .int .i32 lr.2] 24 (0, 0)) := (hb10.block gr hgr).trans c9
                      have ho10 := owns_kept HO.out (Kept.of_below (bad := fun _ => False) hb710) (fun q => q)
                      have s10 : w9.heap.size + 1 < w10.heap.size := (Array.getElem?_eq_some_iff.1 hL10).1
                      have hb010 : Below w.heap.size w w10 := hb7.trans (hb710.mono (by have := hb7.size; omega))
                      clear hos9 hon9 hb10 hb79 c9 p4 p5 HOS HON HO Q4 Q5 hb710 hb7
                      have HC := hide c10
                      have HO := hide ho10
                      have hHL := hide hL10
                      have hHO := hide hO10
                      have HB := hide hb010
                      clear c10 ho10 hL10 hO10 hb010
                      have s9 : w7.heap.size ≤ w9.heap.size := by omega
                      generalize w9.heap.size = S at *
                      go_wp2_with fail
                      refine (zzadd_any S (S + 1) S n (n + sp) hd rs rn a1 a2 b1 b2 xs w10 hHL.out hHO.out hx hhd (by omega) (by omega)).mono ?_
                      rintro e w11 ⟨rfl, g', n', cap', hd', xs', hL11, hO11, hx', hhd', hn', hins, hk11, hgg⟩
                      have c11 : w11.heap[gr]? = some (.cells #[.int .i64 lr.1, .int .i32 lr.2] 24 (0, 0)) := (hk11.block gr (by omega) (by omega)).trans HC.out
                      have ho11 := owns_kept HO.out hk11 (by show ¬ (gw = S + 1 ∨ gw = S); omega)
                      have hb11 : Below w.heap.size w w11 := HB.out.trans (hk11.below w.heap.size HB.out.size (fun k hk q => by have q' : k = S + 1 ∨ k = S := q; omega))
                      have hs11 : w10.heap.size ≤ w11.heap.size := hk11.size
                      rw [← HLV.out] at hins
                      have hWL := ins_cnt HSO.out hins
                      rw [HCN.out] at hWL
                      have hWn : n' = hd' + (m + 1) := by
                        have := congrArg List.length hWL
                        have h2 := HML.out
                        simp at this
                        omega
                      have hWg : ∀ k, xs'.getD (hd' + k) (0, 0) = (live.take pc ++ (a1, a2) :: live.drop pc).getD k (0, 0) := fun k => by
                        rw [← hWL]; simp [List.getD]
                      have hWlen : (live.take pc ++ (a1, a2) :: live.drop pc).length = m + 1 := by have h2 := HML.out; simp; omega
                      rw [HLT.out] at hL11
                      clear hWL hins hk11 HB HO HC hHL hHO HLT HCN HSO HLV HML m4 m5 m6 m7
                      generalize live.take pc ++ (a1, a2) :: live.drop pc = WL at *
                      have HC := hide c11
                      have HO := hide ho11
                      have HB := hide hb11
                      have hHL := hide hL11
                      have hHO := hide hO11
                      have HWG := hide hWg
                      clear c11 ho11 hb11 hL11 hO11 hWg
                      subst hWn
                      go_wp2_with fail
                      refine (fields_any S (S + 1) g' (hd' + (m + 1)) cap' lr.1 lr.2 hd' xs' w11 hx' (by omega) hHL.out hHO.out).mono ?_
                      rintro e w12 ⟨rfl, hs12, hn12, hb12⟩
                      have c12 : w12.heap[gr]? = some (.cells #[.int .i64 lr.1, .int .i32 lr.2] 24 (0, 0)) := (hb12.block gr (by omega)).trans HC.out
                      have ho12 := owns_kept HO.out (Kept.of_below (bad := fun _ => False) hb12) (fun q => q)
                      have hb012 : Below w.heap.size w w12 := HB.out.trans (hb12.mono HB.out.size)
                      have r1 : w12.cell? ⟨gr, 0, none⟩ = some (.int .i64 lr.1) := by rw [cell_of_row _ _ _ _ _ _ c12]; rfl
                      have r2 : w12.cell? ⟨gr, 1, none⟩ = some (.int .i32 lr.2) := by rw [cell_of_row _ _ _ _ _ _ c12]; rfl
                      have H12 := hide hs12
                      have N12 := hide hn12
                      have HO12 := hide ho12
                      have HB12 := hide hb012
                      clear hs12 hn12 hb12 c12 ho12 hb012 HC HO HB hHL hHO
                      generalize w11.heap.size = S2 at *
                      go_wp2
                      clear r1 r2
                      go_loopw [33] (fun i wr => ∃ k q : Nat, k ≤ m + 1 ∧ i = .int .i64 k ∧ wr = w12.drewN q) (fun i _ => m + 1 - (intOf i).toNat)
                      case atStart => exact ⟨0, 0, Nat.zero_le _, rfl, rfl⟩
                      case round =>
                        obtain ⟨k, q, hk, rfl, rfl⟩ := hrel
                        by_cases hlt : k < m + 1
                        · have t1 := secs_cell H12.out hx' (hd' + k) (by omega)
                          have t2 := nsecs_cell N12.out hx' (hd' + k) (by omega)
                          obtain ⟨t3, t4⟩ := inst_at HO12.out hWlen k hlt
                          rw [HWG.out k] at t1 t2
                          generalize WL.getD k (0, 0) = p at *
                          have hlt' : (k : Int) < (m : Int) + 1 := by omega
                          go_wp2
                          go_quiet (fail)
                          go_wp2
                          go_roundw
                          case rel => exact ⟨k + 1, q + nq, by omega, by go_num, rfl⟩
                          case measure => simp [intOf]; omega
                        · go_wp2
                          go_ret
                          exact ⟨rfl, HB12.out.os, HB12.out.tape, HB12.out.output, HB12.out.size, HB12.out.block⟩
                  case first =>
                    as_aux_lemma =>
                      go_wp2
                      go_loopw [23, 25] (fun v i wr => ∃ j : Nat, pc ≤ j ∧ j ≤ m ∧ i = .int .i64 j ∧ v = .slice (some ⟨w4.heap.size, 0, none⟩) (j + 1) (m + 1) ∧ wr.ownsRow w4.heap.size 24 2 (.slice (some ⟨w4.heap.size, 0, none⟩) (j + 1) (m + 1)) (j + 1) (flat (wantTo live (a1, a2) pc j)) ∧ Below w4.heap.size w4 wr) (fun _ i _ => m - (intOf i).toNat)
                      case atStart => exact ⟨pc, Nat.le_refl _, hpc, rfl, rfl, HO6.out, HB6.out⟩
                      case round =>
                        obtain ⟨j, hj1, hj, rfl, rfl, ho, hbel⟩ := hrel
                        have HO := hide ho
                        clear ho
                        by_cases hlt : j < m
                        · obtain ⟨b, off, rfl, hc⟩ := HA.out (by have := HM.out; omega)
                          obtain ⟨c1, c2⟩ := hc (hd + j) (by have := HM.out; omega)
                          have hblt : b < w.heap.size := block_lt_of_cell c1
                          have old : ∀ o, wr.cell? ⟨b, o, none⟩ = w.cell? ⟨b, o, none⟩ := fun o => (hbel.cell (p := ⟨b, o, none⟩) (by show b < _; omega)).trans (hb4.cell (p := ⟨b, o, none⟩) hblt)
                          have m1 : wr.cell? ⟨b, off + (hd + j) * 2, none⟩ = some (.int .i64 (xs.getD (hd + j) (0, 0)).1) := (old _).trans c1
                          have m2 : wr.cell? ⟨b, off + (hd + j) * 2 + 1, none⟩ = some (.int .i32 (xs.getD (hd + j) (0, 0)).2) := (old _).trans c2
                          have hlt' : (hd : Int) + (j : Int) < (n : Int) := by have := HM.out; omega
                          have ets := wantTo_succ live (a1, a2) pc j hj1 (by have := HML.out; omega)
                          rw [HLG.out j] at ets
                          generalize xs.getD (hd + j) (0, 0) = p at *
                          have HTS := hide ets
                          clear ets c1 c2 old hc
                          have hwr : w4.heap.size ≤ wr.heap.size := hbel.size
                          generalize wantTo live (a1, a2) pc j = wj at *
                          go_wp2_with (at_builtin; refine wpList_append_fits _ rfl (.tmp 155) (.tmp 163) 22 rfl w4.heap.size 24 i0 2 Try.underlying22 hi0 hz1 w4.heap.size (j + 1) (m + 1) (flat wj) rfl (HO.out.alloc _) ⟨wr.heap.size, 0, none⟩ 1 1 (flat [p]) rfl rfl (new_cells wr p 24) (flat_one _) (by omega) ?_)
                          intro w7 ho7 hg7
                          rw [← flat_append, HTS.out] at ho7
                          have hb7 : Below w4.heap.size w4 w7 := (hbel.alloc hwr _).grown hg7 (by simp; omega) (fun k hk => by cases hk; exact Nat.le_refl _)
                          have HO7 := hide ho7
                          have HB7 := hide hb7
                          clear ho7 hb7 hg7
                          go_wp2
                          go_roundw
                          case rel => exact ⟨j + 1, by omega, by omega, by go_num, rfl, HO7.out, HB7.out⟩
                          case measure => simp [intOf]; omega
                        · have hjp : j = m := by omega
                          subst hjp
                          go_wp2
                          go_meet
                          case rel => exact ⟨rfl, by rw [← wantTo_done live (a1, a2) pc j HML.out]; exact HO.out, hbel⟩
              case first =>
                as_aux_lemma =>
                  clear hmk
                  go_wp2
                  go_loopw [23, 24] (fun v i wr => ∃ j : Nat, j ≤ pc ∧ i = .int .i64 j ∧ v = .slice (some ⟨w4.heap.size, 0, none⟩) j (m + 1) ∧ wr.ownsRow w4.heap.size 24 2 (.slice (some ⟨w4.heap.size, 0, none⟩) j (m + 1)) j (flat (live.take j)) ∧ Below w4.heap.size w4 wr) (fun _ i _ => pc - (intOf i).toNat)
                  case atStart => exact ⟨0, Nat.zero_le _, rfl, rfl, by simpa using H0.out, (Below.refl _ _).alloc (Nat.le_refl _) _⟩
                  case round =>
                    obtain ⟨j, hj, rfl, rfl, ho, hbel⟩ := hrel
                    have HO := hide ho
                    clear ho
                    by_cases hlt : j < pc
                    · obtain ⟨b, off, rfl, hc⟩ := HA.out (by have := HM.out; omega)
                      obtain ⟨c1, c2⟩ := hc (hd + j) (by have := HM.out; omega)
                      have hblt : b < w.heap.size := block_lt_of_cell c1
                      have old : ∀ o, wr.cell? ⟨b, o, none⟩ = w.cell? ⟨b, o, none⟩ := fun o => (hbel.cell (p := ⟨b, o, none⟩) (by show b < _; omega)).trans (hb4.cell (p := ⟨b, o, none⟩) hblt)
                      have m1 : wr.cell? ⟨b, off + (hd + j) * 2, none⟩ = some (.int .i64 (xs.getD (hd + j) (0, 0)).1) := (old _).trans c1
                      have m2 : wr.cell? ⟨b, off + (hd + j) * 2 + 1, none⟩ = some (.int .i32 (xs.getD (hd + j) (0, 0)).2) := (old _).trans c2
                      have hlt' : (hd : Int) + (j : Int) < (n : Int) := by have := HM.out; omega
                      have ets := take_snoc live j (0, 0) (by have := HML.out; omega)
                      rw [HLG.out j] at ets
                      generalize xs.getD (hd + j) (0, 0) = p at *
                      have HTS := hide ets
                      clear ets c1 c2 old hc
                      have hwr : w4.heap.size ≤ wr.heap.size := hbel.size
                      go_wp2_with (at_builtin; refine wpList_append_fits _ rfl (.tmp 135) (.tmp 143) 22 rfl w4.heap.size 24 i0 2 Try.underlying22 hi0 hz1 w4.heap.size j (m + 1) (flat (live.take j)) rfl (HO.out.alloc _) ⟨wr.heap.size, 0, none⟩ 1 1 (flat [p]) rfl rfl (new_cells wr p 24) (flat_one _) (by omega) ?_)
                      intro w6 ho6 hg6
                      rw [← flat_append, ← HTS.out] at ho6
                      have hb6 : Below w4.heap.size w4 w6 := (hbel.alloc hwr _).grown hg6 (by simp; omega) (fun k hk => by cases hk; exact Nat.le_refl _)
                      have HO6 := hide ho6
                      have HB6 := hide hb6
                      clear ho6 hb6 hg6
                      go_wp2
                      go_roundw
                      case rel => exact ⟨j + 1, by omega, by go_num, rfl, HO6.out, HB6.out⟩
                      case measure => simp [intOf]; omega
                    · have hjp : j = pc := by omega
                      subst hjp
                      go_wp2
                      go_meet
                      case rel => exact ⟨rfl, HO.out, hbel⟩
          case first =>
            as_aux_lemma =>
              go_wp2
              go_loopw [21, 22] (fun p i wr => ∃ j : Nat, j ≤ m ∧ i = .int .i64 ((hd : Int) + (j : Int)) ∧ p = .int .i64 (cnt (a1, a2) ((xs.drop hd).take j)) ∧ Below w3.heap.size w3 wr) (fun _ i _ => n - (intOf i).toNat)
              case atStart => exact ⟨0, Nat.zero_le _, by simp, by simp [cnt], Below.refl _ _⟩
              case round =>
                obtain ⟨j, hj, rfl, rfl, hbel⟩ := hrel
                have hcl : cnt (a1, a2) ((xs.drop hd).take j) ≤ j := Nat.le_trans (cnt_le _ _) (List.length_take_le _ _)
                have hmn := HM.out
                by_cases hlt : j < m
                · obtain ⟨b, off, rfl, hc⟩ := HA.out (by omega)
                  obtain ⟨c1, c2⟩ := hc (hd + j) (by omega)
                  have hblt : b < w.heap.size := block_lt_of_cell c1
                  have old : ∀ o, wr.cell? ⟨b, o, none⟩ = w.cell? ⟨b, o, none⟩ := fun o => (hbel.cell (p := ⟨b, o, none⟩) (by show b < _; omega)).trans (hb3.cell (p := ⟨b, o, none⟩) hblt)
                  have m1 : ∀ d os, (grow (redrawn wr d) os).cell? ⟨b, off + (hd + j) * 2, none⟩ = some (.int .i64 (xs.getD (hd + j) (0, 0)).1) := fun d os => cell_regrown ((old _).trans c1) d os
                  have m2 : ∀ d os, (grow (redrawn wr d) os).cell? ⟨b, off + (hd + j) * 2 + 1, none⟩ = some (.int .i32 (xs.getD (hd + j) (0, 0)).2) := fun d os => cell_regrown ((old _).trans c2) d os
                  have m4 : ∀ d os, (grow (redrawn wr d) os).cell? ⟨w.heap.size, 0, none⟩ = some (.int .i64 a1) := fun d os => cell_regrown ((hbel.cell (p := ⟨w.heap.size, 0, none⟩) (by show w.heap.size < _; omega)).trans (by rw [cell_of_row _ _ _ _ _ _ Q4.out]; rfl)) d os
                  have m5 : ∀ d os, (grow (redrawn wr d) os).cell? ⟨w.heap.size, 1, none⟩ = some (.int .i32 a2) := fun d os => cell_regrown ((hbel.cell (p := ⟨w.heap.size, 1, none⟩) (by show w.heap.size < _; omega)).trans (by rw [cell_of_row _ _ _ _ _ _ Q4.out]; rfl)) d os
                  have hsn := cnt_snoc (a1, a2) ((xs.drop hd).take j) ((xs.drop hd).getD j (0, 0))
                  rw [← take_snoc (xs.drop hd) j (0, 0) (by have := HML.out; omega)] at hsn
                  have eg : (xs.drop hd).getD j (0, 0) = xs.getD (hd + j) (0, 0) := by simp [List.getD]
                  rw [eg] at hsn
                  generalize xs.getD (hd + j) (0, 0) = p at *
                  have HSN := hide hsn
                  clear hsn eg c1 c2 old hc hmn
                  have hlt' : (hd : Int) + (j : Int) < (n : Int) := by have := HM.out; omega
                  generalize cnt (a1, a2) ((xs.drop hd).take j) = cj at *
                  cases hb : ltB (a1, a2) p
                  · go_wp2
                    refine wp_region_quiet_below (by kernel_rfl) (by kernel_rfl) ?_
                    repeat (go_big_quiet_step (exact Calls.regrown_of (less_any _ _ _ _ _)))
                    refine wpQuiet_nil ?_
                    intro _ hw'
                    obtain ⟨⟨dq, osq⟩, hw''⟩ := hw'
                    subst hw''
                    rw [hb]
                    go_wp2
                    go_roundw
                    case rel =>
                      have hs := HSN.out
                      rw [hb] at hs
                      refine ⟨j + 1, by omega, by go_num, by rw [hs]; simp, hbel.trans ((below_regrown wr dq osq).mono hbel.size)⟩
                    case measure => simp [intOf]; omega
                  · go_wp2
                    refine wp_region_quiet_below (by kernel_rfl) (by kernel_rfl) ?_
                    repeat (go_big_quiet_step (exact Calls.regrown_of (less_any _ _ _ _ _)))
                    refine wpQuiet_nil ?_
                    intro _ hw'
                    obtain ⟨⟨dq, osq⟩, hw''⟩ := hw'
                    subst hw''
                    rw [hb]
                    go_wp2
                    go_roundw
                    case rel =>
                      have hs := HSN.out
                      rw [hb] at hs
                      refine ⟨j + 1, by omega, by go_num, by rw [hs]; simp, hbel.trans ((below_regrown wr dq osq).mono hbel.size)⟩
                    case measure => simp [intOf]; omega
                · have hjm : j = m := by omega
                  have hnl : ¬ ((hd : Int) + (j : Int) < (n : Int)) := by omega
                  have HJ := hide hjm
                  clear hjm hmn
                  go_wp2
                  go_meet
                  case rel =>
                    refine ⟨by rw [HM1.out], ?_, hbel⟩
                    rw [List.take_of_length_le (by have := HML.out; have := HJ.out; omega)]
      case first =>
        as_aux_lemma =>
          clear hmk1 hmk2
          go_wp2
          go_loopw [19] (fun i wr => ∃ k : Nat, k ≤ n ∧ i = .int .i64 k ∧ wr.heap.size = w2.heap.size + 1 + 1 ∧ wr.ownsRow w2.heap.size 2 1 (.slice (some ⟨w2.heap.size, 0, none⟩) n n) n ((secs xs).take k ++ List.replicate (n - k) (.int .i64 0)) ∧
            wr.ownsRow w2.heap.size 21 1 (.slice (some ⟨w2.heap.size + 1, 0, none⟩) n n) n ((nsecs xs).take k ++ List.replicate (n - k) (.int .i32 0)) ∧ Below w2.heap.size w2 wr) (fun i _ => n - (intOf i).toNat)
          case atStart => exact ⟨0, Nat.zero_le _, rfl, by simp, by simpa using HA1.out, by simpa using owns_base HA2.out (by simp), ((Below.refl _ _).alloc (Nat.le_refl _) _).alloc (by simp) _⟩
          case round =>
            obtain ⟨k, hk, rfl, hsz, ho1, ho2, hbel⟩ := hrel
            by_cases hlt : k < n
            · obtain ⟨b, off, rfl, hc⟩ := HA.out (by omega)
              have f1 : ∀ j, wr.frozen? ⟨w2.heap.size, j, none⟩ = false := fun j => ho1.frozenAt j
              have f2 : ∀ j, wr.frozen? ⟨w2.heap.size + 1, j, none⟩ = false := fun j => ho2.frozenAt j
              obtain ⟨c1, c2⟩ := hc k hlt
              have hblt : b < w.heap.size := block_lt_of_cell c1
              have d1 : wr.cell? ⟨b, off + k * 2, none⟩ = some (.int .i64 (xs.getD k (0, 0)).1) := (hbel.cell (p := ⟨b, off + k * 2, none⟩) (by show b < _; omega)).trans ((hb2.cell (p := ⟨b, off + k * 2, none⟩) hblt).trans c1)
              have d2 : wr.cell? ⟨b, off + k * 2 + 1, none⟩ = some (.int .i32 (xs.getD k (0, 0)).2) := (hbel.cell (p := ⟨b, off + k * 2 + 1, none⟩) (by show b < _; omega)).trans ((hb2.cell (p := ⟨b, off + k * 2 + 1, none⟩) hblt).trans c2)
              obtain ⟨u1, e1⟩ : ∃ u, wr.cell? ⟨w2.heap.size, k, none⟩ = some u := ⟨_, (ho1.cellAt k (by omega)).trans (List.getElem?_eq_getElem (by have := ho1.1; omega))⟩
              obtain ⟨u2, e2⟩ : ∃ u, wr.cell? ⟨w2.heap.size + 1, k, none⟩ = some u := ⟨_, (ho2.cellAt k (by omega)).trans (List.getElem?_eq_getElem (by have := ho2.1; omega))⟩
              have g1 := fill_set (secs xs) (.int .i64 0) (.int .i64 0) k n (by simp [secs, hx]) hlt
              have g2 := fill_set (nsecs xs) (.int .i32 0) (.int .i32 0) k n (by simp [nsecs, hx]) hlt
              rw [secs_getD xs k (by omega)] at g1
              rw [nsecs_getD xs k (by omega)] at g2
              generalize xs.getD k (0, 0) = p at *
              have r1 := owns_other (ho1.stored k (.int .i64 p.1)).1 ⟨w2.heap.size + 1, k, none⟩ (by simp) (.int .i32 p.2)
              have r2 := ((owns_other ho2 ⟨w2.heap.size, k, none⟩ (by simp) (.int .i64 p.1)).stored k (.int .i32 p.2)).1
              rw [g1] at r1
              rw [g2] at r2
              have R1 := hide r1
              have R2 := hide r2
              clear r1 r2 g1 g2 ho1 ho2 c1 c2 hc
              go_wp2
              go_roundw
              case rel => exact ⟨k + 1, by omega, by go_num, by simp [hsz], R1.out, R2.out, (hbel.setCell (by simp) _).setCell (by simp) _⟩
              case measure => simp [intOf]; omega
            · have hkn : k = n := by omega
              subst hkn
              rw [List.take_of_length_le (by simp [secs, hx]), Nat.sub_self, List.replicate_zero, List.append_nil] at ho1
              rw [List.take_of_length_le (by simp [nsecs, hx]), Nat.sub_self, List.replicate_zero, List.append_nil] at ho2
              go_wp2
              go_meet
              case rel => exact ⟨ho1, ho2, hbel⟩
  case first =>
    as_aux_lemma =>
      go_wp2
      go_loopw [14, 15] (fun r i wr => ∃ k : Nat, r = .bool false ∧ hd ≤ k ∧ k ≤ n ∧ i = .int .i64 ((k : Int) + 1) ∧ (∀ t, hd ≤ t → t < k → t + 1 < n → ltB (xs.getD (t + 1) (0, 0)) (xs.getD t (0, 0)) = false) ∧ Below w1.heap.size w1 wr) (fun _ i _ => n - (intOf i).toNat)
      case atStart => exact ⟨hd, rfl, Nat.le_refl _, hhd, rfl, fun t h1 h2 => by omega, Below.refl _ _⟩
      case round =>
        obtain ⟨k, rfl, hk1, hk2, rfl, hall, hbel⟩ := hrel
        have HALL := hide hall
        clear hall
        by_cases hlt : (k : Int) + 1 < (n : Int)
        · obtain ⟨b, off, rfl, hc⟩ := HA.out (by omega)
          obtain ⟨c1, c2⟩ := hc k (by omega)
          obtain ⟨c3, c4⟩ := hc (k + 1) (by omega)
          have hblt : b < w.heap.size := block_lt_of_cell c1
          have old : ∀ j, wr.cell? ⟨b, j, none⟩ = w.cell? ⟨b, j, none⟩ := fun j => (hbel.cell (p := ⟨b, j, none⟩) (by show b < _; omega)).trans (hb0.cell (p := ⟨b, j, none⟩) hblt)
          have m1 : ∀ d os, (grow (redrawn wr d) os).cell? ⟨b, off + k * 2, none⟩ = some (.int .i64 (xs.getD k (0, 0)).1) := fun d os => cell_regrown ((old _).trans c1) d os
          have m2 : ∀ d os, (grow (redrawn wr d) os).cell? ⟨b, off + k * 2 + 1, none⟩ = some (.int .i32 (xs.getD k (0, 0)).2) := fun d os => cell_regrown ((old _).trans c2) d os
          have m3 : ∀ d os, (grow (redrawn wr d) os).cell? ⟨b, off + (k + 1) * 2, none⟩ = some (.int .i64 (xs.getD (k + 1) (0, 0)).1) := fun d os => cell_regrown ((old _).trans c3) d os
          have m4 : ∀ d os, (grow (redrawn wr d) os).cell? ⟨b, off + (k + 1) * 2 + 1, none⟩ = some (.int .i32 (xs.getD (k + 1) (0, 0)).2) := fun d os => cell_regrown ((old _).trans c4) d os
          clear c1 c2 c3 c4 old hc
          generalize hp : xs.getD k (0, 0) = p at *
          generalize hq : xs.getD (k + 1) (0, 0) = q at *
          have HP := hide hp
          have HQ := hide hq
          clear hp hq
          cases hb : ltB q p
          · go_wp2
            refine wp_region_quiet_below (by kernel_rfl) (by kernel_rfl) ?_
            repeat (go_big_quiet_step (exact Calls.regrown_of (less_any _ _ _ _ _)))
            refine wpQuiet_nil ?_
            intro _ hw'
            obtain ⟨⟨dq, osq⟩, hw''⟩ := hw'
            subst hw''
            rw [hb]
            go_wp2
            go_roundw
            case rel =>
              refine ⟨k + 1, rfl, by omega, by omega, by go_num, fun t h1 h2 h3 => ?_, hbel.trans ((below_regrown wr dq osq).mono hbel.size)⟩
              by_cases e : t = k
              · rw [e, HP.out, HQ.out]; exact hb
              · exact HALL.out t h1 (by omega) h3
            case measure => simp [intOf]; omega
          · go_wp2
            refine wp_region_quiet_below (by kernel_rfl) (by kernel_rfl) ?_
            repeat (go_big_quiet_step (exact Calls.regrown_of (less_any _ _ _ _ _)))
            refine wpQuiet_nil ?_
            intro _ hw'
            obtain ⟨⟨dq, osq⟩, hw''⟩ := hw'
            subst hw''
            rw [hb]
            go_wp2
            go_ret
            exact ⟨rfl, hb0.trans ((hbel.trans ((below_regrown wr dq osq).mono hbel.size)).mono (by omega))⟩
        · go_wp2
          go_meet
          case rel =>
            refine ⟨rfl, fun t ht => ?_, hbel⟩
            rw [List.length_drop] at ht
            have e : ∀ j, (xs.drop hd).getD j (0, 0) = xs.getD (hd + j) (0, 0) := fun j => by simp [List.getD]
            rw [e, e]
            exact HALL.out (hd + t) (by omega) (by omega) (by omega)
end Go.Proofs.Qxb6630764a
