import Derived.Test.Qxb6630834aWalks
namespace Go.Proofs.Qxb6630834a
open Go.RowKit

set_option maxHeartbeats 1000000 in
theorem holds_any (ao : Option Addr) (n cap : Nat) (S : Nat → ByteArray) (t : ByteArray) (w : World) (hn : n ≤ 1048576) (hs : Strs w ao n S) :
    Calls Try.prog 12 #[.slice ao n cap, .string t] w fun e w' => e = .returned (.bool (hasB (key S) n t.toList)) ∧ w' = w := by
  have HS := hide hs
  clear hs
  go_enter Try.func12, Try.ntmps12
  go_wp2
  go_loop [5] (fun a => ∃ k : Nat, a = .int .i64 k ∧ k ≤ n ∧ hasB (key S) k t.toList = false) (fun a => n - (intOf a).toNat)
  case atStart => exact ⟨0, rfl, Nat.zero_le _, by simp [hasB]⟩
  case round =>
    obtain ⟨k, rfl, hk, h1⟩ := hrel
    have H1 := hide h1
    clear h1
    by_cases hlt : k < n
    · obtain ⟨b, off, rfl, hc⟩ := HS.out (by omega)
      have cm : w.cell? ⟨b, off + k, none⟩ = some (.string (S k)) := hc _ hlt
      have ek : key S k = (S k).toList := rfl
      clear hc
      cases hyx : ((S k).toList == t.toList)
      · have hnx : hasB (key S) (k + 1) t.toList = false := by rw [hasB_succ, H1.out, ek, hyx]; rfl
        have HN := hide hnx
        clear hnx
        go_wp2
        go_round
        case rel => exact ⟨k + 1, by go_num, by omega, HN.out⟩
        case measure => simp [intOf]; omega
      · have hnx : hasB (key S) n t.toList = true := (hasB_iff _ _ _).2 ⟨k, hlt, by rw [ek]; simpa using hyx⟩
        have HN := hide hnx
        clear hnx
        go_wp2
        go_ret
        exact ⟨by rw [HN.out]; rfl, rfl⟩
    · obtain rfl : k = n := by omega
      go_wp2
      go_ret
      exact ⟨by rw [H1.out]; rfl, rfl⟩

set_option maxHeartbeats 1000000 in
theorem asc_any (ao : Option Addr) (n cap : Nat) (S : Nat → ByteArray) (w : World) (hn : n ≤ 1048576) (hs : Strs w ao n S) :
    Calls Try.prog 7 #[.slice ao n cap] w fun e w' => ∃ b : Bool, (b = true → Asc (key S) n) ∧ e = .returned (.bool b) ∧ ∃ q, w' = w.drewN q := by
  have HS := hide hs
  clear hs
  go_enter Try.func7, Try.ntmps7
  go_wp2
  go_loopw [3] (fun a wr => ∃ k : Nat, a = .int .i64 k ∧ 1 ≤ k ∧ (k ≤ n ∨ k = 1) ∧ (∀ i, i + 1 < k → lt (key S (i + 1)) (key S i) = false) ∧ ∃ q, wr = w.drewN q) (fun a _ => n - (intOf a).toNat)
  case atStart => exact ⟨1, rfl, Nat.le_refl _, .inr rfl, fun i h => by omega, 0, rfl⟩
  case round =>
    obtain ⟨k, rfl, hk1, hk, h1, q, rfl⟩ := hrel
    have H1 := hide h1
    clear h1
    by_cases hlt : k < n
    · obtain ⟨b, off, rfl, hc⟩ := HS.out (by omega)
      have cm : w.cell? ⟨b, off + k, none⟩ = some (.string (S k)) := hc _ hlt
      have cm2 : w.cell? ⟨b, off + (k - 1), none⟩ = some (.string (S (k - 1))) := hc _ (by omega)
      have ek : key S k = (S k).toList := rfl
      have ek2 : key S (k - 1) = (S (k - 1)).toList := rfl
      clear hc
      cases hyx : lt (S k).toList (S (k - 1)).toList
      · have hnx : ∀ i, i + 1 < k + 1 → lt (key S (i + 1)) (key S i) = false := by
          intro i hi
          by_cases e : i + 1 < k
          · exact H1.out i e
          · obtain rfl : k = i + 1 := by omega
            simpa [key] using hyx
        have HN := hide hnx
        clear hnx
        unfold lt at hyx
        go_wp2
        go_quiet (fail)
        go_wp2
        go_roundw
        case rel => exact ⟨k + 1, by go_num, by omega, .inl (by omega), HN.out, _, rfl⟩
        case measure => simp [intOf]; omega
      · unfold lt at hyx
        go_wp2
        go_quiet (fail)
        go_wp2
        go_ret
        exact ⟨false, by simp, rfl, _, World.drewN_drewN _ _ _⟩
    · go_wp2
      go_ret
      exact ⟨true, fun _ i hi => H1.out i (by omega), rfl, q, rfl⟩

set_option maxHeartbeats 1000000 in
theorem first_any (ao : Option Addr) (n cap : Nat) (S : Nat → ByteArray) (po : Option Addr) (m cap2 : Nat) (O : Nat → ByteArray) (w : World) (hn : n ≤ 1048576) (hm : m ≤ 1048576) (hs : Strs w ao n S) (ho : Strs w po m O) :
    Calls Try.prog 9 #[.slice ao n cap, .slice po m cap2] w fun e w' => (∃ r, IsFirst (key S) n (key O) m r ∧ e = .returned (.tuple (match r with | none => #[.string ⟨#[]⟩, .bool false] | some i => #[.string (O i), .bool true]))) ∧ w' = w := by
  have HS := hide hs
  have HO := hide ho
  clear hs ho
  by_cases hn0 : n = 0
  · subst hn0
    go_enter Try.func9, Try.ntmps9
    go_wp2
    go_ret2
    exact ⟨⟨none, fun i _ => by simp [missB], rfl⟩, rfl⟩
  · obtain ⟨b, off, rfl, hc⟩ := HS.out (by omega)
    have cm : w.cell? ⟨b, off, none⟩ = some (.string (S 0)) := hc 0 (by omega)
    have cm2 : w.cell? ⟨b, off + (n - 1), none⟩ = some (.string (S (n - 1))) := hc _ (by omega)
    have e0 : key S 0 = (S 0).toList := rfl
    have el : key S (n - 1) = (S (n - 1)).toList := rfl
    clear hc
    have hz : ((n : Int) == 0) = false := by simp; omega
    go_enter Try.func9, Try.ntmps9
    go_wp2
    go_loop [8] (fun a => ∃ k : Nat, a = .int .i64 k ∧ k ≤ m ∧ LackTo (key S) n (key O) k) (fun a => m - (intOf a).toNat)
    case atStart => exact ⟨0, rfl, Nat.zero_le _, fun j hj => by omega⟩
    case round =>
      obtain ⟨k, rfl, hk, h1⟩ := hrel
      have H1 := hide h1
      clear h1
      by_cases hlt : k < m
      · obtain ⟨b2, off2, rfl, hc2⟩ := HO.out (by omega)
        have cm3 : w.cell? ⟨b2, off2 + k, none⟩ = some (.string (O k)) := hc2 _ hlt
        have eo : key O k = (O k).toList := rfl
        have hmi := missB_iff (key S) n (key O k)
        rw [e0, el, eo] at hmi
        have HMI := hide hmi
        clear hc2 hmi
        have hnx : missB (key S) n (key O k) = false → LackTo (key S) n (key O) (k + 1) := lack_next H1.out
        rw [eo] at hnx
        have HN := hide hnx
        clear hnx
        cases l1 : Op.bytesLess (O k).toList (S 0).toList
        · have q1 : (Op.bytesLess (S 0).toList (O k).toList || (S 0).toList == (O k).toList) = true := (leq_eq _ _).trans (by simp [lt, l1])
          cases l2 : Op.bytesLess (S (n - 1)).toList (O k).toList
          · have q2 : (Op.bytesLess (O k).toList (S (n - 1)).toList || (O k).toList == (S (n - 1)).toList) = true := (leq_eq _ _).trans (by simp [lt, l2])
            cases l3 : hasB (key S) n (O k).toList
            · have hm1 : missB (key S) n (O k).toList = true := HMI.out.2 ⟨by omega, l1, l2, l3⟩
              have HM1 := hide hm1
              clear hm1
              go_wp2_with (go_at_call 12; refine (holds_any _ _ _ S _ _ hn HS.out).mono ?_; rintro e w' ⟨rfl, rfl⟩; rw [l3])
              go_ret2
              exact ⟨⟨some k, ⟨hlt, HM1.out, H1.out⟩, rfl⟩, rfl⟩
            · have hm1 : missB (key S) n (O k).toList = false := by simp [missB, l3]
              have HM1 := hide hm1
              clear hm1
              go_wp2_with (go_at_call 12; refine (holds_any _ _ _ S _ _ hn HS.out).mono ?_; rintro e w' ⟨rfl, hw⟩; obtain rfl := hw.symm; rw [l3])
              go_round
              case rel => exact ⟨k + 1, by go_num, by omega, HN.out HM1.out⟩
              case measure => simp [intOf]; omega
          · have q2 : (Op.bytesLess (O k).toList (S (n - 1)).toList || (O k).toList == (S (n - 1)).toList) = false := (leq_eq _ _).trans (by simp [lt, l2])
            have hm1 : missB (key S) n (O k).toList = false := by simp [missB, lt, el, l2]
            have HM1 := hide hm1
            clear hm1
            go_wp2_with fail
            go_round
            case rel => exact ⟨k + 1, by go_num, by omega, HN.out HM1.out⟩
            case measure => simp [intOf]; omega
        · have q1 : (Op.bytesLess (S 0).toList (O k).toList || (S 0).toList == (O k).toList) = false := (leq_eq _ _).trans (by simp [lt, l1])
          have hm1 : missB (key S) n (O k).toList = false := by simp [missB, lt, e0, l1]
          have HM1 := hide hm1
          clear hm1
          go_wp2_with fail
          exact ⟨⟨k + 1, by go_num, by omega, HN.out HM1.out⟩, by simp [intOf]; omega⟩
      · obtain rfl : k = m := by omega
        go_wp2
        go_ret2
        exact ⟨⟨none, H1.out, rfl⟩, rfl⟩


set_option maxHeartbeats 1000000 in
theorem lacks_any (ao : Option Addr) (n cap : Nat) (S : Nat → ByteArray) (po : Option Addr) (m cap2 : Nat) (O : Nat → ByteArray) (w : World) (hn : n ≤ 1048576) (hm : m ≤ 1048576) (hmc : m ≤ cap2) (hs : Strs w ao n S) (ho : Strs w po m O) (has : Asc (key S) n) (hao : Asc (key O) m) :
    Calls Try.prog 8 #[.slice ao n cap, .slice po m cap2] w fun e w' => (∃ r, IsFirst (key S) n (key O) m r ∧ e = .returned (.tuple (match r with | none => #[.string ⟨#[]⟩, .bool false] | some i => #[.string (O i), .bool true]))) ∧ w' = w := by
  have HS := hide hs
  have HO := hide ho
  have HAS := hide has
  have HAO := hide hao
  clear hs ho has hao
  by_cases hn0 : n = 0
  · subst hn0
    go_enter Try.func8, Try.ntmps8
    go_wp2
    go_ret2
    exact ⟨⟨none, fun i _ => by simp [missB], rfl⟩, rfl⟩
  · obtain ⟨b, off, rfl, hc⟩ := HS.out (by omega)
    have cm : w.cell? ⟨b, off, none⟩ = some (.string (S 0)) := hc 0 (by omega)
    have cm2 : w.cell? ⟨b, off + (n - 1), none⟩ = some (.string (S (n - 1))) := hc _ (by omega)
    have e0 : key S 0 = (S 0).toList := rfl
    have el : key S (n - 1) = (S (n - 1)).toList := rfl
    clear hc
    by_cases hm0 : m = 0
    · subst hm0
      go_enter Try.func8, Try.ntmps8
      go_wp2_with (go_at_call 14; refine (search_any _ _ _ O _ _ hm HO.out HAO.out).mono ?_; rintro e w' ⟨⟨p, hp, rfl⟩, rfl⟩; obtain rfl : p = 0 := by have := hp.1; omega)
      go_loop [27] (fun a => a = .int .i64 0) (fun a => 0)
      case atStart => rfl
      case round =>
        subst hrel
        go_wp2
        go_ret2
        exact ⟨⟨none, fun i hi => by omega, rfl⟩, rfl⟩
    · obtain ⟨b2, off2, rfl, hc2⟩ := HO.out (by omega)
      have HC2 := hide hc2
      clear hc2
      go_enter Try.func8, Try.ntmps8
      go_wp2_with (go_at_call 14; refine (search_any _ _ _ O _ _ hm HO.out HAO.out).mono ?_; rintro e w' ⟨⟨p, hp, rfl⟩, rfl⟩; have HP := hide hp; have hpm := hp.1; clear hp)
      all_goals
        go_loop [27] (fun a => ∃ k : Nat, a = .int .i64 k ∧ k ≤ m - p ∧ LackTo (key S) n (key O) (p + k)) (fun a => (m - p) - (intOf a).toNat)
        case atStart => exact ⟨0, rfl, by omega, lack_start HP.out⟩
        case round =>
          obtain ⟨k, rfl, hk, h1⟩ := hrel
          have H1 := hide h1
          clear h1
          by_cases hlt : k < m - p
          · first
            | omega
            | have cm3 : w'.cell? ⟨b2, off2 + p + k, none⟩ = some (.string (O (p + k))) := by rw [Nat.add_assoc]; exact HC2.out _ (by omega)
              have eo : key O (p + k) = (O (p + k)).toList := rfl
              have hnx := @lack_next (key S) n (key O) (p + k) H1.out
              have hst := @lack_stop (key S) n (key O) m (p + k) HAO.out H1.out
              have hfo := @lack_found (key S) n (key O) m p (p + k) (by omega) HP.out (by omega) (by omega) H1.out
              rw [eo] at hnx hst hfo
              rw [el] at hst hfo
              have HN := hide hnx
              have HT := hide hst
              have HF := hide hfo
              clear hnx hst hfo
              cases l2 : Op.bytesLess (S (n - 1)).toList (O (p + k)).toList
              · have q2 : (!Op.bytesLess (O (p + k)).toList (S (n - 1)).toList && !((O (p + k)).toList == (S (n - 1)).toList)) = false := by
                  rw [← Bool.not_or]; exact (gtr_eq _ _).trans l2
                cases l3 : hasB (key S) n (O (p + k)).toList
                · go_wp2_with (go_at_call 14; refine (search_any _ _ _ S _ _ hn HS.out HAS.out).mono ?_; rintro e w' ⟨⟨p', _, rfl⟩, rfl⟩; rw [l3])
                  go_ret2
                  exact ⟨⟨some (p + k), HF.out l2 l3, rfl⟩, rfl⟩
                · have hm1 : missB (key S) n (O (p + k)).toList = false := by simp [missB, l3]
                  have HM1 := hide hm1
                  clear hm1
                  go_wp2_with (go_at_call 14; refine (search_any _ _ _ S _ _ hn HS.out HAS.out).mono ?_; rintro e w' ⟨⟨p', _, rfl⟩, rfl⟩; rw [l3])
                  go_round
                  case rel => exact ⟨k + 1, by go_num, by omega, HN.out HM1.out⟩
                  case measure => simp [intOf]; omega
              · have q2 : (!Op.bytesLess (O (p + k)).toList (S (n - 1)).toList && !((O (p + k)).toList == (S (n - 1)).toList)) = true := by
                  rw [← Bool.not_or]; exact (gtr_eq _ _).trans l2
                go_wp2_with fail
                go_ret2
                exact ⟨⟨none, HT.out l2, rfl⟩, rfl⟩
          · have hkm : p + k = m := by omega
            have hfin : LackTo (key S) n (key O) m := hkm ▸ H1.out
            have HF := hide hfin
            clear hfin
            go_wp2_with fail
            go_ret2
            exact ⟨⟨none, HF.out, rfl⟩, rfl⟩

end Go.Proofs.Qxb6630834a
