import Derived.Test.Qxb6630834aMem
import Derived.Test.Qxb6630834aRepair
namespace Go.Proofs.Qxb6630834a
open Go.RowKit

set_option maxHeartbeats 2000000 in
theorem count_any (ao : Option Addr) (n cap : Nat) (S : Nat → ByteArray) (po : Option Addr) (m cap2 : Nat) (O : Nat → ByteArray) (w : World) (hn : n ≤ 1048576) (hm : m ≤ 1048576) (hs : Strs w ao n S) (ho : Strs w po m O) :
    Calls Try.prog 11 #[.slice ao n cap, .slice po m cap2] w fun e w' => e = .returned (.int .i64 (cnt (key S) n (key O) m : Nat)) ∧ w' = w := by
  have HS := hide hs
  have HO := hide ho
  clear hs ho
  by_cases hn0 : n = 0
  · subst hn0
    have HC := hide (cnt_empty (key S) (key O) m)
    go_enter Try.func11, Try.ntmps11
    go_wp2
    go_ret
    exact ⟨by rw [HC.out]; rfl, rfl⟩
  · obtain ⟨b, off, rfl, hc⟩ := HS.out (by omega)
    have cm : w.cell? ⟨b, off, none⟩ = some (.string (S 0)) := hc 0 (by omega)
    have cm2 : w.cell? ⟨b, off + (n - 1), none⟩ = some (.string (S (n - 1))) := hc _ (by omega)
    have e0 : key S 0 = (S 0).toList := rfl
    have el : key S (n - 1) = (S (n - 1)).toList := rfl
    have E0 := hide e0
    have EL := hide el
    clear hc e0 el
    have hz : ((n : Int) == 0) = false := by simp; omega
    go_enter Try.func11, Try.ntmps11
    go_wp2
    go_loop [7, 8] (fun t a => ∃ k : Nat, t = .int .i64 (cnt (key S) n (key O) k : Nat) ∧ a = .int .i64 k ∧ k ≤ m) (fun t a => m - (intOf a).toNat)
    case atStart => exact ⟨0, rfl, rfl, Nat.zero_le _⟩
    case round =>
      obtain ⟨k, rfl, rfl, hk⟩ := hrel
      have hcl := cnt_le (key S) n (key O) k
      have hcs : cnt (key S) n (key O) (k + 1) = cnt (key S) n (key O) k + (if newB (key S) n (key O) k then 1 else 0) := rfl
      have HCS := hide hcs
      clear hcs
      by_cases hlt : k < m
      · obtain ⟨b2, off2, rfl, hc2⟩ := HO.out (by omega)
        have cm3 : w.cell? ⟨b2, off2 + k, none⟩ = some (.string (O k)) := hc2 _ hlt
        have cm4 : w.cell? ⟨b2, off2 + (k - 1), none⟩ = some (.string (O (k - 1))) := hc2 _ (by omega)
        have hnew : newB (key S) n (key O) k = ((decide (k = 0) || !((O (k - 1)).toList == (O k).toList)) && (!Op.bytesLess (O k).toList (S 0).toList && (!Op.bytesLess (S (n - 1)).toList (O k).toList && !hasB (key S) n (O k).toList))) := by
          simp [newB, missB, lt, key, show 0 < n by omega]
        have HNEW := hide hnew
        clear hc2 hnew
        have hstep : ∀ d : Bool, newB (key S) n (key O) k = d → (cnt (key S) n (key O) (k + 1) : Nat) = cnt (key S) n (key O) k + (if d then 1 else 0) := fun d hd => by rw [HCS.out, hd]
        have HST := hide hstep
        clear hstep
        generalize cnt (key S) n (key O) k = C at *
        by_cases hk0 : (0 : Int) < k
        · cases hdup : ((O (k - 1)).toList == (O k).toList)
          · cases l1 : Op.bytesLess (O k).toList (S 0).toList
            · have q1 : (Op.bytesLess (S 0).toList (O k).toList || (S 0).toList == (O k).toList) = true := (leq_eq _ _).trans (by simp [lt, l1])
              cases l2 : Op.bytesLess (S (n - 1)).toList (O k).toList
              · have q2 : (Op.bytesLess (O k).toList (S (n - 1)).toList || (O k).toList == (S (n - 1)).toList) = true := (leq_eq _ _).trans (by simp [lt, l2])
                cases l3 : hasB (key S) n (O k).toList
                · have hb : ((decide (k = 0) || !((O (k - 1)).toList == (O k).toList)) && (!Op.bytesLess (O k).toList (S 0).toList && (!Op.bytesLess (S (n - 1)).toList (O k).toList && !hasB (key S) n (O k).toList))) = true := by simp only [l1, l2, l3]; rw [hdup]; simp
                  have HB := hide hb
                  clear hb
                  go_wp2_with (go_at_call 12; refine (holds_any _ _ _ S _ _ hn HS.out).mono ?_; rintro e w' ⟨rfl, hw⟩; obtain rfl := hw.symm; rw [l3])
                  go_round
                  case rel => exact ⟨k + 1, by rw [HST.out _ (HNEW.out.trans HB.out)]; rfl, by go_num, by omega⟩
                  case measure => simp [intOf]; omega
                · have hb : ((decide (k = 0) || !((O (k - 1)).toList == (O k).toList)) && (!Op.bytesLess (O k).toList (S 0).toList && (!Op.bytesLess (S (n - 1)).toList (O k).toList && !hasB (key S) n (O k).toList))) = false := by simp [l3]
                  have HB := hide hb
                  clear hb
                  go_wp2_with (go_at_call 12; refine (holds_any _ _ _ S _ _ hn HS.out).mono ?_; rintro e w' ⟨rfl, hw⟩; obtain rfl := hw.symm; rw [l3])
                  go_round
                  case rel => exact ⟨k + 1, by rw [HST.out _ (HNEW.out.trans HB.out)]; rfl, by go_num, by omega⟩
                  case measure => simp [intOf]; omega
              · have q2 : (Op.bytesLess (O k).toList (S (n - 1)).toList || (O k).toList == (S (n - 1)).toList) = false := (leq_eq _ _).trans (by simp [lt, l2])
                have hb : ((decide (k = 0) || !((O (k - 1)).toList == (O k).toList)) && (!Op.bytesLess (O k).toList (S 0).toList && (!Op.bytesLess (S (n - 1)).toList (O k).toList && !hasB (key S) n (O k).toList))) = false := by simp [l2]
                have HB := hide hb
                clear hb
                go_wp2_with fail
                go_round
                case rel => exact ⟨k + 1, by rw [HST.out _ (HNEW.out.trans HB.out)]; rfl, by go_num, by omega⟩
                case measure => simp [intOf]; omega
            · have q1 : (Op.bytesLess (S 0).toList (O k).toList || (S 0).toList == (O k).toList) = false := (leq_eq _ _).trans (by simp [lt, l1])
              have hb : ((decide (k = 0) || !((O (k - 1)).toList == (O k).toList)) && (!Op.bytesLess (O k).toList (S 0).toList && (!Op.bytesLess (S (n - 1)).toList (O k).toList && !hasB (key S) n (O k).toList))) = false := by simp [l1]
              have HB := hide hb
              clear hb
              go_wp2_with fail
              go_round
              case rel => exact ⟨k + 1, by rw [HST.out _ (HNEW.out.trans HB.out)]; rfl, by go_num, by omega⟩
              case measure => simp [intOf]; omega
          · have hb : ((decide (k = 0) || !((O (k - 1)).toList == (O k).toList)) && (!Op.bytesLess (O k).toList (S 0).toList && (!Op.bytesLess (S (n - 1)).toList (O k).toList && !hasB (key S) n (O k).toList))) = false := by
              have : ¬ k = 0 := by omega
              simp [hdup, this]
            have HB := hide hb
            clear hb
            go_wp2_with fail
            go_round
            case rel => exact ⟨k + 1, by rw [HST.out _ (HNEW.out.trans HB.out)]; rfl, by go_num, by omega⟩
            case measure => simp [intOf]; omega
        · cases l1 : Op.bytesLess (O k).toList (S 0).toList
          · have q1 : (Op.bytesLess (S 0).toList (O k).toList || (S 0).toList == (O k).toList) = true := (leq_eq _ _).trans (by simp [lt, l1])
            cases l2 : Op.bytesLess (S (n - 1)).toList (O k).toList
            · have q2 : (Op.bytesLess (O k).toList (S (n - 1)).toList || (O k).toList == (S (n - 1)).toList) = true := (leq_eq _ _).trans (by simp [lt, l2])
              cases l3 : hasB (key S) n (O k).toList
              · have hb : ((decide (k = 0) || !((O (k - 1)).toList == (O k).toList)) && (!Op.bytesLess (O k).toList (S 0).toList && (!Op.bytesLess (S (n - 1)).toList (O k).toList && !hasB (key S) n (O k).toList))) = true := by
                          simp only [l1, l2, l3]
                          have : k = 0 := by omega
                          simp [this]
                have HB := hide hb
                clear hb
                go_wp2_with (go_at_call 12; refine (holds_any _ _ _ S _ _ hn HS.out).mono ?_; rintro e w' ⟨rfl, hw⟩; obtain rfl := hw.symm; rw [l3])
                go_round
                case rel => exact ⟨k + 1, by rw [HST.out _ (HNEW.out.trans HB.out)]; rfl, by go_num, by omega⟩
                case measure => simp [intOf]; omega
              · have hb : ((decide (k = 0) || !((O (k - 1)).toList == (O k).toList)) && (!Op.bytesLess (O k).toList (S 0).toList && (!Op.bytesLess (S (n - 1)).toList (O k).toList && !hasB (key S) n (O k).toList))) = false := by simp [l3]
                have HB := hide hb
                clear hb
                go_wp2_with (go_at_call 12; refine (holds_any _ _ _ S _ _ hn HS.out).mono ?_; rintro e w' ⟨rfl, hw⟩; obtain rfl := hw.symm; rw [l3])
                go_round
                case rel => exact ⟨k + 1, by rw [HST.out _ (HNEW.out.trans HB.out)]; rfl, by go_num, by omega⟩
                case measure => simp [intOf]; omega
            · have q2 : (Op.bytesLess (O k).toList (S (n - 1)).toList || (O k).toList == (S (n - 1)).toList) = false := (leq_eq _ _).trans (by simp [lt, l2])
              have hb : ((decide (k = 0) || !((O (k - 1)).toList == (O k).toList)) && (!Op.bytesLess (O k).toList (S 0).toList && (!Op.bytesLess (S (n - 1)).toList (O k).toList && !hasB (key S) n (O k).toList))) = false := by simp [l2]
              have HB := hide hb
              clear hb
              go_wp2_with fail
              go_round
              case rel => exact ⟨k + 1, by rw [HST.out _ (HNEW.out.trans HB.out)]; rfl, by go_num, by omega⟩
              case measure => simp [intOf]; omega
          · have q1 : (Op.bytesLess (S 0).toList (O k).toList || (S 0).toList == (O k).toList) = false := (leq_eq _ _).trans (by simp [lt, l1])
            have hb : ((decide (k = 0) || !((O (k - 1)).toList == (O k).toList)) && (!Op.bytesLess (O k).toList (S 0).toList && (!Op.bytesLess (S (n - 1)).toList (O k).toList && !hasB (key S) n (O k).toList))) = false := by simp [l1]
            have HB := hide hb
            clear hb
            go_wp2_with fail
            go_round
            case rel => exact ⟨k + 1, by rw [HST.out _ (HNEW.out.trans HB.out)]; rfl, by go_num, by omega⟩
            case measure => simp [intOf]; omega
      · obtain rfl : k = m := by omega
        go_wp2
        go_ret
        exact ⟨rfl, rfl⟩

set_option maxHeartbeats 2000000 in
theorem insert_any (g n cap : Nat) (S : Nat → ByteArray) (d : ByteArray) (w : World) (hn : n ≤ 1000000) (hs : Mine w g n S) :
    Calls Try.prog 13 #[.slice (some ⟨g, 0, none⟩) n cap, .string d] w fun e w' => (∃ pos : Nat, pos ≤ n ∧ (∀ j, j < pos → lt d.toList (key S j) = false) ∧ (pos < n → lt d.toList (key S pos) = true) ∧
      Mine w' w.heap.size (n + 1) (fun i => if i < pos then S i else if i = pos then d else S (i - 1))) ∧ e = .returned (.slice (some ⟨w.heap.size, 0, none⟩) (n + 1) (n + 1)) ∧ Below w.heap.size w w' := by
  have HS := hide hs
  have hgl := hs.lt
  clear hs
  go_enter Try.func13, Try.ntmps13
  have hmk : ∀ wx : World, (Instr.makeSlice 22 (.int .i64 ((n : Int) + 1)) (.int .i64 ((n : Int) + 1))).run Try.prog wx = .ok (.slice (some ⟨wx.heap.size, 0, none⟩) (n + 1) (n + 1)) (wx.alloc (.cells (zeros (.string ⟨#[]⟩) (n + 1)) 9)) := fun wx => make9 (n + 1) (by omega) wx
  go_upto_block 0 with fail
  go_cut [5] (fun p w' => ∃ pos : Nat, p = .int .i64 pos ∧ pos ≤ n ∧ (∀ j, j < pos → lt d.toList (key S j) = false) ∧ (pos < n → lt d.toList (key S pos) = true) ∧ w' = w)
  case first =>
    go_wp2
    go_loop [5, 6] (fun a b => a = .int .i64 n ∧ ∃ k : Nat, b = .int .i64 k ∧ k ≤ n ∧ ∀ j, j < k → lt d.toList (key S j) = false) (fun _ b => n - (intOf b).toNat)
    case atStart => exact ⟨rfl, 0, rfl, Nat.zero_le _, fun j hj => absurd hj (Nat.not_lt_zero _)⟩
    case round =>
      obtain ⟨rfl, k, rfl, hk, h1⟩ := hrel
      have H1 := hide h1
      clear h1
      by_cases hlt : k < n
      · have cm : w.cell? ⟨g, k, none⟩ = some (.string (S k)) := HS.out.cell k hlt
        cases l2 : Op.bytesLess d.toList (S k).toList
        · have q2 : (!Op.bytesLess (S k).toList d.toList && !((S k).toList == d.toList)) = false := by
            rw [← Bool.not_or]; exact (gtr_eq _ _).trans l2
          have hnx : ∀ j, j < k + 1 → lt d.toList (key S j) = false := fun j hj => by
            by_cases e : j = k
            · subst e; exact l2
            · exact H1.out j (by omega)
          have HN := hide hnx
          clear hnx
          go_wp2_with fail
          go_round
          case rel => exact ⟨rfl, k + 1, by go_num, by omega, HN.out⟩
          case measure => simp [intOf]; omega
        · have q2 : (!Op.bytesLess (S k).toList d.toList && !((S k).toList == d.toList)) = true := by
            rw [← Bool.not_or]; exact (gtr_eq _ _).trans l2
          have HL := hide (show lt d.toList (key S k) = true from l2)
          go_wp2_with fail
          go_meet
          case rel => exact ⟨k, rfl, hk, H1.out, fun _ => HL.out, rfl⟩
      · obtain rfl : k = n := by omega
        go_wp2_with fail
        go_meet
        case rel => exact ⟨k, rfl, Nat.le_refl _, H1.out, fun h => absurd h (Nat.lt_irrefl _), rfl⟩
  case rest =>
    revert wc
    intro w2 hcut
    obtain ⟨pos, rfl, hpn, h1, h2, rfl⟩ := hcut
    have H1 := hide h1
    have H2 := hide h2
    clear h1 h2
    have HMM := hide (mine_made w2 (n + 1))
    have HBB := hide (show Below w2.heap.size w2 (w2.alloc (.cells (zeros (.string ⟨#[]⟩) (n + 1)) 9)) from (Below.refl _ _).alloc (Nat.le_refl _) _)
    go_wp2_with fail
    generalize hal : w2.alloc (.cells (zeros (.string ⟨#[]⟩) (n + 1)) 9) = w3 at *
    clear hal hmk
    go_loopw [8] (fun a wr => ∃ k : Nat, a = .int .i64 k ∧ k ≤ pos ∧ Mine wr w2.heap.size (n + 1) (fun i => if i < k then S i else ⟨#[]⟩) ∧ Below w2.heap.size w2 wr) (fun a _ => pos - (intOf a).toNat)
    case atStart => exact ⟨0, rfl, Nat.zero_le _, HMM.out.congr (fun i _ => by simp), HBB.out⟩
    case round =>
      obtain ⟨k, rfl, hk, hm, hb⟩ := hrel
      by_cases hlt : k < pos
      · have c1 : wr.cell? ⟨g, k, none⟩ = some (.string (S k)) := (HS.out.below hb hgl).cell k (by omega)
        have c2 : ∃ y, wr.cell? ⟨w2.heap.size, k, none⟩ = some (.string y) := ⟨_, hm.cell k (by omega)⟩
        obtain ⟨y, c2⟩ := c2
        have c3 : ∀ i, wr.frozen? ⟨w2.heap.size, i, none⟩ = false := fun i => hm.frozen i
        have hm2 := (hm.set k (by omega) (S k)).congr (V' := fun i => if i < k + 1 then S i else ⟨#[]⟩) (fun i _ => by
          by_cases e : i = k
          · simp [e]
          · by_cases e2 : i < k
            · simp [e, e2, show i < k + 1 by omega]
            · simp [e, e2, show ¬ i < k + 1 by omega])
        have HM2 := hide hm2
        have HB2 := hide (hb.setCell (p := ⟨w2.heap.size, k, none⟩) (Nat.le_refl _) (.string (S k)))
        clear hm2 hm hb
        go_wp2_with fail
        go_roundw
        case rel => exact ⟨k + 1, by go_num, by omega, HM2.out, HB2.out⟩
        case measure => simp [intOf]; omega
      · obtain rfl : k = pos := by omega
        have c2 : ∃ y, wr.cell? ⟨w2.heap.size, k, none⟩ = some (.string y) := ⟨_, hm.cell k (by omega)⟩
        obtain ⟨y, c2⟩ := c2
        have c3 : ∀ i, wr.frozen? ⟨w2.heap.size, i, none⟩ = false := fun i => hm.frozen i
        have hm2 := (hm.set k (by omega) d).congr (V' := fun i => if i < k then S i else if i = k then d else if i < k + 1 then S (i - 1) else ⟨#[]⟩) (fun i _ => by
          by_cases e : i = k
          · simp [e]
          · by_cases e2 : i < k
            · simp [e, e2]
            · simp [e, e2, show ¬ i < k + 1 by omega])
        have HM2 := hide hm2
        have HB2 := hide (hb.setCell (p := ⟨w2.heap.size, k, none⟩) (Nat.le_refl _) (.string d))
        clear hm2 hm hb
        go_wp2_with fail
        generalize wr.setCell ⟨w2.heap.size, k, none⟩ (.string d) = w4 at *
        clear c2 c3 HMM HBB
        go_loopw [9] (fun a wr => ∃ q : Nat, a = .int .i64 q ∧ k ≤ q ∧ q ≤ n ∧ Mine wr w2.heap.size (n + 1) (fun i => if i < k then S i else if i = k then d else if i < q + 1 then S (i - 1) else ⟨#[]⟩) ∧ Below w2.heap.size w2 wr) (fun a _ => n - (intOf a).toNat)
        case atStart => exact ⟨k, rfl, Nat.le_refl _, hpn, HM2.out, HB2.out⟩
        case round =>
          obtain ⟨q, rfl, hkq, hq, hm, hb⟩ := hrel
          by_cases hlt2 : q < n
          · have c1 : wr.cell? ⟨g, q, none⟩ = some (.string (S q)) := (HS.out.below hb hgl).cell q (by omega)
            have c2 : ∃ y, wr.cell? ⟨w2.heap.size, q + 1, none⟩ = some (.string y) := ⟨_, hm.cell (q + 1) (by omega)⟩
            obtain ⟨y, c2⟩ := c2
            have c3 : ∀ i, wr.frozen? ⟨w2.heap.size, i, none⟩ = false := fun i => hm.frozen i
            have hm3 := (hm.set (q + 1) (by omega) (S q)).congr (V' := fun i => if i < k then S i else if i = k then d else if i < q + 1 + 1 then S (i - 1) else ⟨#[]⟩) (fun i _ => by
              by_cases e : i = q + 1
              · simp [e, show ¬ q + 1 < k by omega, show ¬ q + 1 = k by omega]
              · by_cases e2 : i < k
                · simp [e, e2]
                · by_cases e3 : i = k
                  · simp [e3, show ¬ k = q + 1 by omega]
                  · by_cases e4 : i < q + 1
                    · simp [e, e2, e3, e4, show i < q + 1 + 1 by omega]
                    · simp [e, e2, e3, e4, show ¬ i < q + 1 + 1 by omega])
            have HM3 := hide hm3
            have HB3 := hide (hb.setCell (p := ⟨w2.heap.size, q + 1, none⟩) (Nat.le_refl _) (.string (S q)))
            clear hm3 hm hb
            go_wp2_with fail
            go_roundw
            case rel => exact ⟨q + 1, by go_num, by omega, by omega, HM3.out, HB3.out⟩
            case measure => simp [intOf]; omega
          · obtain rfl : q = n := by omega
            have hm3 := hm.congr (V' := fun i => if i < k then S i else if i = k then d else S (i - 1)) (fun i hi => by simp [hi])
            have HM3 := hide hm3
            have HB3 := hide hb
            clear hm3 hm hb
            go_wp2_with fail
            go_ret
            exact ⟨⟨k, hkq, H1.out, H2.out, HM3.out⟩, rfl, HB3.out⟩

end Go.Proofs.Qxb6630834a
