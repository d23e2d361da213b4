import Derived.Test.Qxb6630804aLawA
namespace Go.Proofs.Qxb6630804a
open Go.RowKit

set_option maxRecDepth 100000 in
set_option maxHeartbeats 1000000 in
theorem lawB_early (x0 p : Int) (ao : Option Addr) (n cap : Nat) (x3 x4 x5 x6 : Int) (w : World) (hn : n ≤ maxLen) (he : 4096 < n ∨ 2305843009213693952 < p ∨ n = 0) :
    Calls Try.prog 4 #[.int .i64 x0, .int .i64 p, .slice ao n cap, .int .i64 x3, .int .i64 x4, .int .i64 x5, .int .i64 x6] w fun e w' => e = .returned (.bool true) ∧ Below w.heap.size w w' := by
  have hn' := hn
  unfold maxLen at hn'
  by_cases c1 : 1048576 < n
  · have hd1 : decide (n ≤ 1048576) = false := by simp; omega
    go_enter Try.func4, Try.ntmps4
    go_wp2_with fail
    refine (bytesB_any _ _ _ _ _ _ _ _ _ _ hn).mono ?_
    rintro e w1 ⟨rfl, rfl⟩
    rw [hd1]
    go_wp2
    go_ret
    exact ⟨rfl, Below.refl _ _⟩
  have hd1 : decide (n ≤ 1048576) = true := by simp; omega
  by_cases c2 : (4096 : Int) < n
  · go_enter Try.func4, Try.ntmps4
    go_wp2_with fail
    refine (bytesB_any _ _ _ _ _ _ _ _ _ _ hn).mono ?_
    rintro e w1 ⟨rfl, rfl⟩
    rw [hd1]
    go_wp2
    go_ret
    exact ⟨rfl, Below.refl _ _⟩
  by_cases c3 : 2305843009213693952 < p
  · go_enter Try.func4, Try.ntmps4
    go_wp2_with fail
    refine (bytesB_any _ _ _ _ _ _ _ _ _ _ hn).mono ?_
    rintro e w1 ⟨rfl, rfl⟩
    rw [hd1]
    go_wp2
    go_ret
    exact ⟨rfl, Below.refl _ _⟩
  obtain rfl : n = 0 := by omega
  go_enter Try.func4, Try.ntmps4
  go_wp2_with fail
  refine (bytesB_any _ _ _ _ _ _ _ _ _ _ hn).mono ?_
  rintro e w1 ⟨rfl, rfl⟩
  rw [hd1]
  go_wp2
  go_ret
  exact ⟨rfl, Below.refl _ _⟩

set_option maxRecDepth 100000 in
set_option maxHeartbeats 4000000 in
theorem lawB_main (x0 p : Int) (b off m cap : Nat) (x3 x4 x5 x6 : Int) (f : Nat → Int) (w : World) (hn2 : m + 1 ≤ 4096) (hp2 : p ≤ 2305843009213693952) (hc : IsInts w b off (m + 1) f) :
    Calls Try.prog 4 #[.int .i64 x0, .int .i64 p, .slice (some ⟨b, off, none⟩) (m + 1) cap, .int .i64 x3, .int .i64 x4, .int .i64 x5, .int .i64 x6] w fun e w' => e = .returned (.bool true) ∧ Below w.heap.size w w' := by
  have hd1 : decide (m + 1 ≤ 1048576) = true := by simp; omega
  have hz : ((m : Int) + 1 == 0) = false := by simp; omega
  have hbl : b < w.heap.size := block_lt_of_cell (hc 0 (by omega))
  have HC := hide hc
  clear hc
  go_enter Try.func4, Try.ntmps4
  go_wp2_with fail
  refine (bytesB_any _ _ _ _ _ _ _ _ _ _ (by unfold maxLen; omega)).mono ?_
  rintro e w1 ⟨rfl, hw1⟩
  subst hw1
  rw [hd1]
  clear hd1
  go_upto_block 0 with fail
  go_cut [14] from 15 (fun r w' => r = .bool false ∧ (∀ i, i < m + 1 → 0 ≤ f i ∧ f i < p) ∧ (∀ i, i + 1 < m + 1 → f i < f (i + 1)) ∧ ∃ q, w' = w1.drewN q)
  case rest =>
    revert wc
    intro w2 hcut
    obtain ⟨rfl, hr, ha, q0, rfl⟩ := hcut
    have hc2 : IsInts (w1.drewN q0) b off (m + 1) f := HC.out
    have r0 := hr 0 (by omega)
    have hsm : Small p f (m + 1) := ⟨by omega, fun i hi => by have := hr i hi; omega, fun i j hi hj => by have := hr i hi; have := hr j hj; omega⟩
    have hro : ∀ i, i < m + 1 → 0 ≤ Plain.rot p f (m + 1) i ∧ Plain.rot p f (m + 1) i < p + p := by
      intro i hi
      unfold Plain.rot
      split
      · rename_i h; have := hr (i + 1) h; omega
      · omega
    have hsr : Small p (Plain.rot p f (m + 1)) (m + 1) := ⟨by omega, fun i hi => by have := hro i hi; omega, fun i j hi hj => by have := hro i hi; have := hro j hj; omega⟩
    have e1 : Plain.gapTo p f (m + 1) m = Plain.gapTo p (Plain.rot p f (m + 1)) (m + 1) m := Plain.gap_rot p f (m + 1) (by omega)
    have e2 : 0 < Plain.gapTo p f (m + 1) m := Plain.gap_pos p f (m + 1) (by omega) r0.1 (hr m (by omega)).2 ha
    have e3 : Plain.gapTo p f (m + 1) m ≤ p / ((m + 1 : Nat) : Int) := Plain.gap_le_div p f (m + 1) (by omega)
    have hb2 : Below w1.heap.size w1 (w1.drewN q0) := bdr _ _ _
    have hbl2 : b < (w1.drewN q0).heap.size := hbl
    generalize w1.drewN q0 = w2 at *
    have HC2 := hide hc2
    have HSM := hide hsm
    have HSR := hide hsr
    have E1 := hide e1
    have E2 := hide e2
    have E3 := hide e3
    clear hc2 hsm hsr hr ha HC hro e1 e2 e3
    go_wp2_with fail
    refine (clone_any b off (m + 1) cap f w2 hn2 HC2.out hbl2).mono ?_
    rintro e w3 ⟨rfl, hm3, hb3⟩
    have s3 := hm3.lt
    have hsz2 : w1.heap.size ≤ w2.heap.size := hb2.size
    have HM3 := hide hm3
    have HB3 := hide (hb2.trans (hb3.mono hb2.size))
    clear hm3 hb3 hb2 HC2 hbl2
    generalize w2.heap.size = g1 at *
    have hmk : ∀ wx : World, (Instr.makeSlice 22 (.int .i64 ((m : Int) + 1)) (.int .i64 ((m : Int) + 1))).run Try.prog wx = .ok (.slice (some ⟨wx.heap.size, 0, none⟩) (m + 1) (m + 1)) (wx.alloc (.cells (zeros (.int .i64 0) (m + 1)) 2)) := fun wx => make2 (m + 1) (by omega) wx
    have H0 := hide (mine_made w3 (m + 1))
    go_upto_block 2 with fail
    go_cut [] from 18 (fun w' => Mine w' w3.heap.size (m + 1) (fun j => if j < m then f (j + 1) else 0) ∧ Below w3.heap.size w3 w')
    case rest =>
      revert wc
      intro w4 hcut
      obtain ⟨hm4, hb4⟩ := hcut
      clear H0 hmk
      have c0 : w4.cell? ⟨g1, 0, none⟩ = some (.int .i64 (f 0)) := (hb4.cell (p := ⟨g1, 0, none⟩) s3).trans (HM3.out.cell 0 (by omega))
      have cm := hm4.cell m (by omega)
      have cf : ∀ i, w4.frozen? ⟨w3.heap.size, i, none⟩ = false := fun i => hm4.frozen i
      generalize (if m < m then f (m + 1) else 0) = y at cm
      have hmr : Mine (w4.setCell ⟨w3.heap.size, m, none⟩ (.int .i64 (f 0 + p))) w3.heap.size (m + 1) (Plain.rot p f (m + 1)) := (hm4.set m (by omega) (f 0 + p)).congr (fun i hi => by
        unfold Plain.rot
        by_cases e : i = m
        · simp [e]
        · simp [e, show i < m by omega])
      have hb4' : Below w3.heap.size w3 (w4.setCell ⟨w3.heap.size, m, none⟩ (.int .i64 (f 0 + p))) := hb4.setCell (Nat.le_refl _) _
      have HMR := hide hmr
      have HB4 := hide hb4'
      clear hmr hb4' hb4 hm4
      have hlm : (m : Int) < (m : Int) + 1 := by omega
      have hl0 : (0 : Int) < (m : Int) + 1 := by omega
      generalize hF : f 0 = F at *
      have HFF := hide hF
      clear hF
      go_wp2_with fail
      clear c0 cm cf
      generalize w4.setCell ⟨w3.heap.size, m, none⟩ (.int .i64 (F + p)) = w5 at *
      have s5 := HMR.out.lt
      have HM5 := hide (HM3.out.below HB4.out s3)
      have HB5 := hide (HB3.out.trans (HB4.out.mono HB3.out.size))
      clear HM3 HB3 HB4
      generalize w3.heap.size = gr at *
      refine (clone_any g1 0 (m + 1) (m + 1) f w5 hn2 (fun i hi => by rw [Nat.zero_add]; exact HM5.out.cell i hi) (by omega)).mono ?_
      rintro e w6 ⟨rfl, hm6, hb6⟩
      have s6 := hm6.lt
      have HM6 := hide hm6
      have HR6 := hide (HMR.out.below hb6 s5)
      have HB6 := hide (HB5.out.trans (hb6.mono HB5.out.size))
      clear hm6 hb6 HMR HM5 HB5
      generalize w5.heap.size = g2 at *
      go_wp2_with fail
      refine (newRec_any _ _ _ _ _ _ _ _ _ _).mono ?_
      rintro e w7 ⟨rfl, hw7⟩
      have h7 : w7.heap[w6.heap.size]? = some (.cells #[.int .i64 x0, .int .i64 p, .slice (some ⟨g2, 0, none⟩) (m + 1) (m + 1), .int .i64 x3, .int .i64 x4, .int .i64 x5, .int .i64 x6] 30 (0, 0)) := by rw [hw7]; exact heap_alloc_new w6 _
      have hb7 : Below w6.heap.size w6 w7 := by rw [hw7]; exact (Below.refl _ _).alloc (Nat.le_refl _) _
      have HM7 := hide (HM6.out.below hb7 s6)
      have HR7 := hide (HR6.out.below hb7 (by omega))
      have HB7 := hide (HB6.out.trans (hb7.mono HB6.out.size))
      have H7 := hide h7
      clear h7 hb7 hw7 HM6 HR6 HB6
      generalize w6.heap.size = R at *
      go_wp2_with fail
      refine (zzgap_any R g2 (m + 1) x0 p x3 x4 x5 x6 f w7 (by omega) hn2 H7.out HM7.out HSM.out).mono ?_
      rintro e w8 ⟨rfl, q1, rfl⟩
      have s7 := HR7.out.lt
      have HR8 : Hid (Mine (w7.drewN q1) gr (m + 1) (Plain.rot p f (m + 1))) := HR7.out
      have HB8 := hide (HB7.out.trans (bdr _ _ q1))
      clear HM7 H7 HB7 HR7
      generalize w7.drewN q1 = w8 at *
      go_wp2_with fail
      refine (newRec_any _ _ _ _ _ _ _ _ _ _).mono ?_
      rintro e w9 ⟨rfl, hw9⟩
      have h9 : w9.heap[w8.heap.size]? = some (.cells #[.int .i64 x0, .int .i64 p, .slice (some ⟨gr, 0, none⟩) (m + 1) (m + 1), .int .i64 x3, .int .i64 x4, .int .i64 x5, .int .i64 x6] 30 (0, 0)) := by rw [hw9]; exact heap_alloc_new w8 _
      have hb9 : Below w8.heap.size w8 w9 := by rw [hw9]; exact (Below.refl _ _).alloc (Nat.le_refl _) _
      have HR9 := hide (HR8.out.below hb9 HR8.out.lt)
      have HB9 := hide (HB8.out.trans (hb9.mono HB8.out.size))
      have H9 := hide h9
      clear h9 hb9 hw9 HR8 HB8
      generalize w8.heap.size = R2 at *
      go_wp2_with fail
      refine (zzgap_any R2 gr (m + 1) x0 p x3 x4 x5 x6 (Plain.rot p f (m + 1)) w9 (by omega) hn2 H9.out HR9.out HSR.out).mono ?_
      rintro e w10 ⟨rfl, q2, rfl⟩
      have hG : Plain.gapTo p (Plain.rot p f (m + 1)) (m + 1) (m + 1 - 1) = Plain.gapTo p f (m + 1) m := E1.out.symm
      rw [hG]
      have e2 := E2.out
      have e3 := E3.out
      clear HR9 H9 HSM HSR E1 E2 E3 hG
      generalize Plain.gapTo p f (m + 1) m = G at *
      have e3' : G ≤ p / ((m : Int) + 1) := by simpa using e3
      clear e3
      go_wp2
      go_ret
      exact ⟨rfl, HB9.out.trans (bdr _ _ _)⟩
    case first =>
      clear hmk
      go_wp2
      go_loopw [18] (fun i wr => ∃ k : Nat, k ≤ m ∧ i = .int .i64 ((k : Int) + 1) ∧ Mine wr w3.heap.size (m + 1) (fun j => if j < k then f (j + 1) else 0) ∧ Below w3.heap.size w3 wr) (fun i _ => m + 1 - (intOf i).toNat)
      case atStart => exact ⟨0, Nat.zero_le _, rfl, H0.out.congr (fun i _ => by simp), (Below.refl _ _).alloc (Nat.le_refl _) _⟩
      case round =>
        obtain ⟨k, hk, rfl, hm, hbel⟩ := hrel
        by_cases hlt : k < m
        · have c1 : wr.cell? ⟨g1, k + 1, none⟩ = some (.int .i64 (f (k + 1))) := (hbel.cell (p := ⟨g1, k + 1, none⟩) s3).trans (HM3.out.cell (k + 1) (by omega))
          have c2 := hm.cell k (by omega)
          have c3 : ∀ i, wr.frozen? ⟨w3.heap.size, i, none⟩ = false := fun i => hm.frozen i
          have hm2 := (hm.set k (by omega) (f (k + 1))).congr (v' := fun j => if j < k + 1 then f (j + 1) else 0) (fun i _ => by
            by_cases e : i = k
            · simp [e]
            · by_cases e2 : i < k
              · simp [e, e2, show i < k + 1 by omega]
              · simp [e, e2, show ¬ i < k + 1 by omega])
          generalize (if k < k then f (k + 1) else 0) = y at c2
          generalize f (k + 1) = x at *
          have HM2 := hide hm2
          clear hm2 hm
          have hlt' : (k : Int) + 1 < (m : Int) + 1 := by omega
          go_wp2
          go_roundw
          case rel => exact ⟨k + 1, by omega, by go_num, HM2.out, hbel.setCell (Nat.le_refl _) _⟩
          case measure => simp [intOf]; omega
        · have hkn : k = m := by omega
          subst hkn
          go_wp2
          go_meet
          case rel => exact ⟨hm, hbel⟩
  case first =>
    go_wp2
    go_loopw [14, 15] (fun r i wr => ∃ k q : Nat, r = .bool false ∧ k ≤ m + 1 ∧ i = .int .i64 k ∧ (∀ t, t < k → 0 ≤ f t ∧ f t < p) ∧ (∀ t, t + 1 < k → f t < f (t + 1)) ∧ wr = w1.drewN q) (fun _ i _ => m + 1 - (intOf i).toNat)
    case atStart => exact ⟨0, 0, rfl, Nat.zero_le _, rfl, fun t h => by omega, fun t h => by omega, rfl⟩
    case round =>
      obtain ⟨k, q, rfl, hk, rfl, hr, ha, rfl⟩ := hrel
      have HR := hide hr
      have HAs := hide ha
      clear hr ha
      by_cases hlt : k < m + 1
      · have c1 := HC.out k hlt
        have hlt' : (k : Int) < (m : Int) + 1 := by omega
        by_cases e1 : f k < 0
        · generalize f k = x at *
          go_wp2
          go_ret
          exact ⟨rfl, bdr _ _ _⟩
        by_cases e2 : p ≤ f k
        · generalize f k = x at *
          go_wp2
          go_ret
          exact ⟨rfl, bdr _ _ _⟩
        have d1 : decide (f k < 0) = false := by simpa using e1
        have d2 : decide (p ≤ f k) = false := by simpa using e2
        cases k with
        | zero =>
          have H1 := hide (And.intro e1 e2)
          rw [Nat.add_zero] at c1
          generalize hx : f 0 = x at *
          have HX := hide hx
          clear hx
          go_wp2
          go_quiet (fail)
          go_wp2
          go_roundw
          case rel =>
            refine ⟨1, q + nq, rfl, by omega, by go_num, fun t ht => ?_, fun t ht => by omega, rfl⟩
            obtain rfl : t = 0 := by omega
            have := H1.out
            rw [HX.out]; omega
          case measure => simp [intOf]
        | succ j =>
          have c0 := HC.out j (by omega)
          have H1 := hide (And.intro e1 e2)
          by_cases e3 : f (j + 1) ≤ f j
          · generalize f (j + 1) = x at *
            generalize f j = y at *
            go_wp2
            go_quiet (fail)
            go_wp2
            go_ret
            exact ⟨rfl, (bdr _ _ _).trans (bdr _ _ _)⟩
          · generalize hx : f (j + 1) = x at *
            generalize hy : f j = y at *
            have HX := hide hx
            have HY := hide hy
            clear hx hy
            have H3 := hide e3
            go_wp2
            go_quiet (fail)
            go_wp2
            go_roundw
            case rel =>
              refine ⟨j + 1 + 1, q + nq, rfl, by omega, by go_num, fun t ht => ?_, fun t ht => ?_, rfl⟩
              · by_cases et : t = j + 1
                · have := H1.out
                  rw [et, HX.out]; omega
                · exact HR.out t (by omega)
              · by_cases et : t = j
                · have := H3.out
                  rw [et, HX.out, HY.out]; omega
                · exact HAs.out t (by omega)
            case measure => simp [intOf]; omega
      · have hkn : k = m + 1 := by omega
        subst hkn
        go_wp2
        go_meet
        case rel => exact ⟨rfl, HR.out, HAs.out, q, rfl⟩
end Go.Proofs.Qxb6630804a
