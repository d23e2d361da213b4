import Derived.Test.Qxb6630804aGap
namespace Go.Proofs.Qxb6630804a
open Go.RowKit

theorem bdr (B : Nat) (w : World) (q : Nat) : Below B w (w.drewN q) := ⟨rfl, rfl, rfl, Nat.le_refl _, fun _ _ => rfl⟩

set_option maxRecDepth 100000 in
set_option maxHeartbeats 1000000 in
theorem lawA_early (x0 p : Int) (ao : Option Addr) (n cap : Nat) (x3 x4 x5 x6 : Int) (w : World) (hn : n ≤ maxLen) (he : 4096 < n ∨ 2305843009213693952 < p ∨ p < -2305843009213693952 ∨ n = 0) :
    Calls Try.prog 3 #[.int .i64 x0, .int .i64 p, .slice ao n cap, .int .i64 x3, .int .i64 x4, .int .i64 x5, .int .i64 x6] w fun e w' => e = .returned (.bool true) ∧ Below w.heap.size w w' := by
  have hn' := hn
  unfold maxLen at hn'
  by_cases c1 : 1048576 < n
  · have hd1 : decide (n ≤ 1048576) = false := by simp; omega
    go_enter Try.func3, Try.ntmps3
    go_wp2_with fail
    refine (bytesA_any _ _ _ _ _ _ _ _ _ _ hn).mono ?_
    rintro e w1 ⟨rfl, rfl⟩
    rw [hd1]
    go_wp2
    go_ret
    exact ⟨rfl, Below.refl _ _⟩
  have hd1 : decide (n ≤ 1048576) = true := by simp; omega
  by_cases c2 : (4096 : Int) < n
  · go_enter Try.func3, Try.ntmps3
    go_wp2_with fail
    refine (bytesA_any _ _ _ _ _ _ _ _ _ _ hn).mono ?_
    rintro e w1 ⟨rfl, rfl⟩
    rw [hd1]
    go_wp2
    go_ret
    exact ⟨rfl, Below.refl _ _⟩
  by_cases c3 : 2305843009213693952 < p
  · go_enter Try.func3, Try.ntmps3
    go_wp2_with fail
    refine (bytesA_any _ _ _ _ _ _ _ _ _ _ hn).mono ?_
    rintro e w1 ⟨rfl, rfl⟩
    rw [hd1]
    go_wp2
    go_ret
    exact ⟨rfl, Below.refl _ _⟩
  by_cases c4 : p < -2305843009213693952
  · go_enter Try.func3, Try.ntmps3
    go_wp2_with fail
    refine (bytesA_any _ _ _ _ _ _ _ _ _ _ hn).mono ?_
    rintro e w1 ⟨rfl, rfl⟩
    rw [hd1]
    go_wp2
    go_ret
    exact ⟨rfl, Below.refl _ _⟩
  obtain rfl : n = 0 := by omega
  go_enter Try.func3, Try.ntmps3
  go_wp2_with fail
  refine (bytesA_any _ _ _ _ _ _ _ _ _ _ hn).mono ?_
  rintro e w1 ⟨rfl, rfl⟩
  rw [hd1]
  go_wp2
  go_ret
  exact ⟨rfl, Below.refl _ _⟩

set_option maxRecDepth 100000 in
set_option maxHeartbeats 4000000 in
theorem lawA_main (x0 p : Int) (b off n cap : Nat) (x3 x4 x5 x6 : Int) (f : Nat → Int) (w : World) (hn : 0 < n) (hn2 : n ≤ 4096) (hp1 : -2305843009213693952 ≤ p) (hp2 : p ≤ 2305843009213693952) (hc : IsInts w b off n f) :
    Calls Try.prog 3 #[.int .i64 x0, .int .i64 p, .slice (some ⟨b, off, none⟩) n cap, .int .i64 x3, .int .i64 x4, .int .i64 x5, .int .i64 x6] w fun e w' => e = .returned (.bool true) ∧ Below w.heap.size w w' := by
  have hd1 : decide (n ≤ 1048576) = true := by simp; omega
  have hz : ((n : Int) == 0) = false := by simp; omega
  have hbl : b < w.heap.size := block_lt_of_cell (hc 0 hn)
  have HC := hide hc
  clear hc
  go_enter Try.func3, Try.ntmps3
  go_wp2_with fail
  refine (bytesA_any _ _ _ _ _ _ _ _ _ _ (by unfold maxLen; omega)).mono ?_
  rintro e w1 ⟨rfl, hw1⟩
  subst hw1
  rw [hd1]
  clear hd1
  go_upto_block 0 with fail
  go_cut [14] from 15 (fun r w' => r = .bool false ∧ (∀ i, i < n → -2305843009213693952 ≤ f i ∧ f i ≤ 2305843009213693952) ∧ Plain.Asc f n ∧ ∃ q, w' = w1.drewN q)
  case rest =>
    revert wc
    intro w2 hcut
    obtain ⟨rfl, hr, ha, q0, rfl⟩ := hcut
    have hc2 : IsInts (w1.drewN q0) b off n f := HC.out
    have hsm : Small p f n := ⟨⟨hp1, hp2⟩, fun i hi => by have := hr i hi; omega, fun i j hi hj => by have := hr i hi; have := hr j hj; omega⟩
    have hb2 : Below w1.heap.size w1 (w1.drewN q0) := bdr _ _ _
    have hbl2 : b < (w1.drewN q0).heap.size := hbl
    generalize w1.drewN q0 = w2 at *
    have HC2 := hide hc2
    have HSM := hide hsm
    have HR := hide hr
    have HAs := hide ha
    clear hc2 hsm hr ha HC
    go_wp2_with fail
    refine (clone_any b off n cap f w2 hn2 HC2.out hbl2).mono ?_
    rintro e w3 ⟨rfl, hm3, hb3⟩
    have s3 := hm3.lt
    have hsz2 : w1.heap.size ≤ w2.heap.size := hb2.size
    have HM3 := hide hm3
    have HB3 := hide (hb2.trans (hb3.mono hb2.size))
    clear hm3 hb3 hb2 HC2 hbl2
    generalize w2.heap.size = g1 at *
    go_wp2_with fail
    refine (clone_any g1 0 n n f w3 hn2 (fun i hi => by rw [Nat.zero_add]; exact HM3.out.cell i hi) s3).mono ?_
    rintro e w4 ⟨rfl, hm4, hb4⟩
    have s4 := hm4.lt
    have HM4 := hide hm4
    have HM3' := hide (HM3.out.below hb4 s3)
    have HB4 := hide (HB3.out.trans (hb4.mono HB3.out.size))
    clear hm4 hb4 HM3 HB3
    generalize hg2 : w3.heap.size = g2 at *
    clear hg2
    go_wp2_with fail
    refine (newRec_any _ _ _ _ _ _ _ _ _ _).mono ?_
    rintro e w5 ⟨rfl, hw5⟩
    have h5 : w5.heap[w4.heap.size]? = some (.cells #[.int .i64 x0, .int .i64 p, .slice (some ⟨g2, 0, none⟩) n n, .int .i64 x3, .int .i64 x4, .int .i64 x5, .int .i64 x6] 30 (0, 0)) := by rw [hw5]; exact heap_alloc_new w4 _
    have hb5 : Below w4.heap.size w4 w5 := by rw [hw5]; exact (Below.refl _ _).alloc (Nat.le_refl _) _
    have HM5 := hide (HM4.out.below hb5 s4)
    have HM3 := hide (HM3'.out.below hb5 (by omega))
    have HB5 := hide (HB4.out.trans (hb5.mono HB4.out.size))
    have H5 := hide h5
    clear h5 hb5 hw5 HM4 HM3' HB4
    generalize hR : w4.heap.size = R at *
    clear hR
    go_wp2_with fail
    refine (zzgap_any R g2 n x0 p x3 x4 x5 x6 f w5 hn hn2 H5.out HM5.out HSM.out).mono ?_
    rintro e w6 ⟨rfl, q1, rfl⟩
    have hG : ∀ wv, Plain.Want p f n n (n + 1) wv → Plain.gapTo p f n (n - 1) = wv := fun wv hw => Plain.want_done hn HAs.out hw
    have HG := hide hG
    have hcell : ∀ i, i < n → w5.cell? ⟨g1, i, none⟩ = some (.int .i64 (f i)) := fun i hi => HM3.out.cell i hi
    have HCE := hide hcell
    clear hG hcell HM5 HM3 H5 HSM HAs
    generalize Plain.gapTo p f n (n - 1) = G at *
    go_wp2
    go_loopw [19, 20] (fun wt i wr => ∃ (k q : Nat) (wv : Int), k ≤ n ∧ i = .int .i64 k ∧ wt = .int .i64 wv ∧ Plain.Want p f n k (k + 1) wv ∧ wr = w5.drewN q) (fun _ i _ => n - (intOf i).toNat)
    case atStart => exact ⟨0, q1, p, Nat.zero_le _, rfl, rfl, Plain.want_start p f n, rfl⟩
    case round =>
      obtain ⟨k, q, wv, hk, rfl, rfl, hw, rfl⟩ := hrel
      have HW := hide hw
      clear hw
      by_cases hlt : k < n
      · go_wp2
        go_loopw [19, 21] (fun wt j wr => ∃ (l q : Nat) (wv : Int), k < l ∧ l ≤ n ∧ j = .int .i64 l ∧ wt = .int .i64 wv ∧ Plain.Want p f n k l wv ∧ wr = w5.drewN q) (fun _ j _ => n - (intOf j).toNat)
        case atStart => exact ⟨k + 1, q, wv, by omega, by omega, by go_num, rfl, HW.out, rfl⟩
        case round =>
          obtain ⟨l, q2, wv2, hkl, hl, rfl, rfl, hw2, rfl⟩ := hrel
          have HW2 := hide hw2
          clear hw2
          by_cases hll : l < n
          · have c1 := HCE.out l hll
            have c2 := HCE.out k hlt
            have b1 := HR.out l hll
            have b2 := HR.out k hlt
            have hst := fun w' l0 l1 l2 e => Plain.want_step HW2.out hkl hll (w' := w') l0 l1 l2 e
            generalize f l = x at *
            generalize f k = y at *
            have HST := hide hst
            clear hst
            by_cases d1 : x - y < wv2
            · by_cases d2 : p - (x - y) < x - y
              · go_wp2
                go_quiet (fail)
                go_wp2
                go_roundw
                case rel => exact ⟨l + 1, q2 + nq, p - (x - y), by omega, by omega, by go_num, rfl, HST.out _ (by omega) (by omega) (by omega) (.inr (.inr rfl)), rfl⟩
                case measure => simp [intOf]; omega
              · go_wp2
                go_quiet (fail)
                go_wp2
                go_roundw
                case rel => exact ⟨l + 1, q2 + nq, x - y, by omega, by omega, by go_num, rfl, HST.out _ (by omega) (by omega) (by omega) (.inr (.inl rfl)), rfl⟩
                case measure => simp [intOf]; omega
            · by_cases d2 : p - (x - y) < wv2
              · go_wp2
                go_quiet (fail)
                go_wp2
                go_roundw
                case rel => exact ⟨l + 1, q2 + nq, p - (x - y), by omega, by omega, by go_num, rfl, HST.out _ (by omega) (by omega) (by omega) (.inr (.inr rfl)), rfl⟩
                case measure => simp [intOf]; omega
              · go_wp2
                go_quiet (fail)
                go_wp2
                go_roundw
                case rel => exact ⟨l + 1, q2 + nq, wv2, by omega, by omega, by go_num, rfl, HST.out _ (by omega) (by omega) (by omega) (.inl rfl), rfl⟩
                case measure => simp [intOf]; omega
          · have hln : l = n := by omega
            subst hln
            go_wp2
            go_roundw
            case rel => exact ⟨k + 1, q2, wv2, by omega, by go_num, rfl, Plain.want_next HW2.out, rfl⟩
            case measure => simp [intOf]; omega
      · have hkn : k = n := by omega
        subst hkn
        have he : (G == wv) = true := by rw [HG.out wv HW.out]; simp
        go_wp2
        go_ret
        exact ⟨by simp, HB5.out.trans (bdr _ _ _)⟩
  case first =>
    go_wp2
    go_loopw [14, 15] (fun r i wr => ∃ k q : Nat, r = .bool false ∧ k ≤ n ∧ i = .int .i64 k ∧ (∀ t, t < k → -2305843009213693952 ≤ f t ∧ f t ≤ 2305843009213693952) ∧ (∀ t, t + 1 < k → f t ≤ f (t + 1)) ∧ wr = w1.drewN q) (fun _ i _ => n - (intOf i).toNat)
    case atStart => exact ⟨0, 0, rfl, Nat.zero_le _, rfl, fun t h => by omega, fun t h => by omega, rfl⟩
    case round =>
      obtain ⟨k, q, rfl, hk, rfl, hr, ha, rfl⟩ := hrel
      have HR := hide hr
      have HAs := hide ha
      clear hr ha
      by_cases hlt : k < n
      · have c1 := HC.out k hlt
        by_cases e1 : 2305843009213693952 < f k
        · generalize f k = x at *
          go_wp2
          go_ret
          exact ⟨rfl, bdr _ _ _⟩
        by_cases e2 : f k < -2305843009213693952
        · generalize f k = x at *
          go_wp2
          go_ret
          exact ⟨rfl, bdr _ _ _⟩
        have d1 : decide (2305843009213693952 < f k) = false := by simpa using e1
        have d2 : decide (f k < -2305843009213693952) = false := by simpa using e2
        cases k with
        | zero =>
          have H1 := hide (And.intro e1 e2)
          rw [Nat.add_zero] at c1
          generalize hx : f 0 = x at *
          have HX := hide hx
          clear hx
          go_wp2
          go_quiet (fail)
          go_wp2
          go_roundw
          case rel =>
            refine ⟨1, q + nq, rfl, by omega, by go_num, fun t ht => ?_, fun t ht => by omega, rfl⟩
            obtain rfl : t = 0 := by omega
            have := H1.out
            rw [HX.out]; omega
          case measure => simp [intOf]; omega
        | succ j =>
          have c0 := HC.out j (by omega)
          have H1 := hide (And.intro e1 e2)
          by_cases e3 : f (j + 1) < f j
          · generalize f (j + 1) = x at *
            generalize f j = y at *
            go_wp2
            go_quiet (fail)
            go_wp2
            go_ret
            exact ⟨rfl, (bdr _ _ _).trans (bdr _ _ _)⟩
          · generalize hx : f (j + 1) = x at *
            generalize hy : f j = y at *
            have HX := hide hx
            have HY := hide hy
            clear hx hy
            have H3 := hide e3
            go_wp2
            go_quiet (fail)
            go_wp2
            go_roundw
            case rel =>
              refine ⟨j + 1 + 1, q + nq, rfl, by omega, by go_num, fun t ht => ?_, fun t ht => ?_, rfl⟩
              · by_cases et : t = j + 1
                · have := H1.out
                  rw [et, HX.out]; omega
                · exact HR.out t (by omega)
              · by_cases et : t = j
                · have := H3.out
                  rw [et, HX.out, HY.out]; omega
                · exact HAs.out t (by omega)
            case measure => simp [intOf]; omega
      · have hkn : k = n := by omega
        subst hkn
        go_wp2
        go_meet
        case rel => exact ⟨rfl, HR.out, HAs.out, q, rfl⟩
end Go.Proofs.Qxb6630804a
