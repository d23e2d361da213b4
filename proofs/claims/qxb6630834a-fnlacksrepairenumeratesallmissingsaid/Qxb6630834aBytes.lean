import Derived.Test.Qxb6630834aWalks
namespace Go.Proofs.Qxb6630834a
open Go.RowKit

/-- A bool is returned; if it is true, p stands. -/
def YesIf (p : Prop) (e : Ending) : Prop := ∃ b : Bool, (b = true → p) ∧ e = .returned (.bool b)

theorem yes_no (p : Prop) : YesIf p (.returned (.bool false)) := ⟨false, by simp, rfl⟩

theorem yes_yes {p : Prop} (h : p) : YesIf p (.returned (.bool true)) := ⟨true, fun _ => h, rfl⟩

set_option maxHeartbeats 1000000 in
theorem bytes5_any (ao : Option Addr) (n cap : Nat) (S : Nat → ByteArray) (po : Option Addr) (m cap2 : Nat) (O : Nat → ByteArray) (w : World) (hn : n ≤ maxLen) (hm : m ≤ maxLen) (hs : Strs w ao n S) (ho : Strs w po m O) :
    Calls Try.prog 5 #[.slice ao n cap, .slice po m cap2] w fun e w' => YesIf ((n ≤ 1048576 ∧ ∀ i, i < n → (S i).size ≤ 1048576) ∧ m ≤ 1048576 ∧ ∀ i, i < m → (O i).size ≤ 1048576) e ∧ w' = w := by
  have HS := hide hs
  have HO := hide ho
  clear hs ho
  unfold maxLen at hn hm
  by_cases h1 : (1048576 : Int) < n
  · go_enter Try.func5, Try.ntmps5
    go_wp2
    go_ret
    exact ⟨yes_no _, rfl⟩
  · go_enter Try.func5, Try.ntmps5
    go_wp2
    go_loop [5, 6] (fun t a => ∃ k : Nat, ∃ x : Int, t = .int .i64 x ∧ 0 ≤ x ∧ x ≤ 1048576 ∧ a = .int .i64 k ∧ k ≤ n ∧ ∀ i, i < k → (S i).size ≤ 1048576) (fun t a => n - (intOf a).toNat)
    case atStart => exact ⟨0, n, by simp, by omega, by omega, rfl, by omega, fun i h => by omega⟩
    case round =>
      obtain ⟨k, x, rfl, hx0, hx, rfl, hk, hb⟩ := hrel
      have HB := hide hb
      clear hb
      by_cases hlt : k < n
      · obtain ⟨b, off, rfl, hc⟩ := HS.out (by omega)
        have cm : w.cell? ⟨b, off + k, none⟩ = some (.string (S k)) := hc _ hlt
        clear hc
        by_cases hl : (1048576 : Int) < ((S k).size : Int)
        · go_wp2
          go_ret
          exact ⟨yes_no _, rfl⟩
        · by_cases hl2 : (1048576 : Int) < x + ((S k).size : Int)
          · go_wp2
            go_ret
            exact ⟨yes_no _, rfl⟩
          · go_wp2
            go_round
            case rel => exact ⟨k + 1, _, rfl, by omega, by omega, by go_num, by omega, fun i hi => by
                          by_cases e : i = k
                          · subst e; omega
                          · exact HB.out i (by omega)⟩
            case measure => simp [intOf]; omega
      · obtain rfl : k = n := by omega
        by_cases h2 : (1048576 : Int) < m
        · go_wp2
          go_ret
          exact ⟨yes_no _, rfl⟩
        · by_cases h3 : (1048576 : Int) < x + m
          · go_wp2
            go_ret
            exact ⟨yes_no _, rfl⟩
          · go_wp2
            go_loop [5, 7] (fun t a => ∃ j : Nat, ∃ x : Int, t = .int .i64 x ∧ 0 ≤ x ∧ x ≤ 1048576 ∧ a = .int .i64 j ∧ j ≤ m ∧ ∀ i, i < j → (O i).size ≤ 1048576) (fun t a => m - (intOf a).toNat)
            case atStart => exact ⟨0, _, rfl, by omega, by omega, rfl, by omega, fun i h => by omega⟩
            case round =>
              obtain ⟨j, y, rfl, hy0, hy, rfl, hj, hb⟩ := hrel
              have HB2 := hide hb
              clear hb
              by_cases hlt2 : j < m
              · obtain ⟨b, off, rfl, hc⟩ := HO.out (by omega)
                have cm : w.cell? ⟨b, off + j, none⟩ = some (.string (O j)) := hc _ hlt2
                clear hc
                by_cases hl : (1048576 : Int) < ((O j).size : Int)
                · go_wp2
                  go_ret
                  exact ⟨yes_no _, rfl⟩
                · by_cases hl2 : (1048576 : Int) < y + ((O j).size : Int)
                  · go_wp2
                    go_ret
                    exact ⟨yes_no _, rfl⟩
                  · go_wp2
                    go_round
                    case rel => exact ⟨j + 1, _, rfl, by omega, by omega, by go_num, by omega, fun i hi => by
                                  by_cases e : i = j
                                  · subst e; omega
                                  · exact HB2.out i (by omega)⟩
                    case measure => simp [intOf]; omega
              · obtain rfl : j = m := by omega
                go_wp2
                go_ret
                exact ⟨yes_yes ⟨⟨by omega, HB.out⟩, by omega, HB2.out⟩, rfl⟩

set_option maxHeartbeats 1000000 in
theorem bytes10_any (ao : Option Addr) (n cap : Nat) (S : Nat → ByteArray) (po : Option Addr) (m cap2 : Nat) (O : Nat → ByteArray) (w : World) (hn : n ≤ maxLen) (hm : m ≤ maxLen) (hs : Strs w ao n S) (ho : Strs w po m O) :
    Calls Try.prog 10 #[.slice ao n cap, .slice po m cap2] w fun e w' => YesIf ((n ≤ 1048576 ∧ ∀ i, i < n → (S i).size ≤ 1048576) ∧ m ≤ 1048576 ∧ ∀ i, i < m → (O i).size ≤ 1048576) e ∧ w' = w := by
  have HS := hide hs
  have HO := hide ho
  clear hs ho
  unfold maxLen at hn hm
  by_cases h1 : (1048576 : Int) < n
  · go_enter Try.func10, Try.ntmps10
    go_wp2
    go_ret
    exact ⟨yes_no _, rfl⟩
  · go_enter Try.func10, Try.ntmps10
    go_wp2
    go_loop [5, 6] (fun t a => ∃ k : Nat, ∃ x : Int, t = .int .i64 x ∧ 0 ≤ x ∧ x ≤ 1048576 ∧ a = .int .i64 k ∧ k ≤ n ∧ ∀ i, i < k → (S i).size ≤ 1048576) (fun t a => n - (intOf a).toNat)
    case atStart => exact ⟨0, n, by simp, by omega, by omega, rfl, by omega, fun i h => by omega⟩
    case round =>
      obtain ⟨k, x, rfl, hx0, hx, rfl, hk, hb⟩ := hrel
      have HB := hide hb
      clear hb
      by_cases hlt : k < n
      · obtain ⟨b, off, rfl, hc⟩ := HS.out (by omega)
        have cm : w.cell? ⟨b, off + k, none⟩ = some (.string (S k)) := hc _ hlt
        clear hc
        by_cases hl : (1048576 : Int) < ((S k).size : Int)
        · go_wp2
          go_ret
          exact ⟨yes_no _, rfl⟩
        · by_cases hl2 : (1048576 : Int) < x + ((S k).size : Int)
          · go_wp2
            go_ret
            exact ⟨yes_no _, rfl⟩
          · go_wp2
            go_round
            case rel => exact ⟨k + 1, _, rfl, by omega, by omega, by go_num, by omega, fun i hi => by
                          by_cases e : i = k
                          · subst e; omega
                          · exact HB.out i (by omega)⟩
            case measure => simp [intOf]; omega
      · obtain rfl : k = n := by omega
        by_cases h2 : (1048576 : Int) < m
        · go_wp2
          go_ret
          exact ⟨yes_no _, rfl⟩
        · by_cases h3 : (1048576 : Int) < x + m
          · go_wp2
            go_ret
            exact ⟨yes_no _, rfl⟩
          · go_wp2
            go_loop [5, 7] (fun t a => ∃ j : Nat, ∃ x : Int, t = .int .i64 x ∧ 0 ≤ x ∧ x ≤ 1048576 ∧ a = .int .i64 j ∧ j ≤ m ∧ ∀ i, i < j → (O i).size ≤ 1048576) (fun t a => m - (intOf a).toNat)
            case atStart => exact ⟨0, _, rfl, by omega, by omega, rfl, by omega, fun i h => by omega⟩
            case round =>
              obtain ⟨j, y, rfl, hy0, hy, rfl, hj, hb⟩ := hrel
              have HB2 := hide hb
              clear hb
              by_cases hlt2 : j < m
              · obtain ⟨b, off, rfl, hc⟩ := HO.out (by omega)
                have cm : w.cell? ⟨b, off + j, none⟩ = some (.string (O j)) := hc _ hlt2
                clear hc
                by_cases hl : (1048576 : Int) < ((O j).size : Int)
                · go_wp2
                  go_ret
                  exact ⟨yes_no _, rfl⟩
                · by_cases hl2 : (1048576 : Int) < y + ((O j).size : Int)
                  · go_wp2
                    go_ret
                    exact ⟨yes_no _, rfl⟩
                  · go_wp2
                    go_round
                    case rel => exact ⟨j + 1, _, rfl, by omega, by omega, by go_num, by omega, fun i hi => by
                                  by_cases e : i = j
                                  · subst e; omega
                                  · exact HB2.out i (by omega)⟩
                    case measure => simp [intOf]; omega
              · obtain rfl : j = m := by omega
                go_wp2
                go_ret
                exact ⟨yes_yes ⟨⟨by omega, HB.out⟩, by omega, HB2.out⟩, rfl⟩

set_option maxHeartbeats 1000000 in
theorem within_any (ao : Option Addr) (n cap : Nat) (S : Nat → ByteArray) (po : Option Addr) (m cap2 : Nat) (O : Nat → ByteArray) (w : World) (hn : n ≤ 4096) (hm : m ≤ 4096) (hs : Strs w ao n S) (ho : Strs w po m O) (zs : ∀ i, i < n → (S i).size ≤ 1048576) (zo : ∀ i, i < m → (O i).size ≤ 1048576) :
    Calls Try.prog 6 #[.slice ao n cap, .slice po m cap2, .int .i64 1048576] w fun e w' => YesIf True e ∧ w' = w := by
  have HS := hide hs
  have HO := hide ho
  have ZS := hide zs
  have ZO := hide zo
  clear hs ho zs zo
  go_enter Try.func6, Try.ntmps6
  go_wp2
  go_loop [7, 8] (fun t a => ∃ k : Nat, ∃ x : Int, t = .int .i64 x ∧ 0 ≤ x ∧ x ≤ 1048576 ∧ a = .int .i64 k ∧ k ≤ n) (fun t a => n - (intOf a).toNat)
  case atStart => exact ⟨0, _, rfl, by omega, by omega, rfl, by omega⟩
  case round =>
    obtain ⟨k, x, rfl, hx0, hx, rfl, hk⟩ := hrel
    by_cases hlt : k < n
    · obtain ⟨b, off, rfl, hc⟩ := HS.out (by omega)
      have cm : w.cell? ⟨b, off + k, none⟩ = some (.string (S k)) := hc _ hlt
      have hz := ZS.out k hlt
      clear hc
      by_cases hl2 : (1048576 : Int) < x + ((S k).size : Int)
      · go_wp2
        go_ret
        exact ⟨yes_no _, rfl⟩
      · go_wp2
        go_round
        case rel => exact ⟨k + 1, _, rfl, by omega, by omega, by go_num, by omega⟩
        case measure => simp [intOf]; omega
    · obtain rfl : k = n := by omega
      go_wp2
      go_loop [7, 9] (fun t a => ∃ j : Nat, ∃ x : Int, t = .int .i64 x ∧ 0 ≤ x ∧ x ≤ 1048576 ∧ a = .int .i64 j ∧ j ≤ m) (fun t a => m - (intOf a).toNat)
      case atStart => exact ⟨0, _, rfl, by omega, by omega, rfl, by omega⟩
      case round =>
        obtain ⟨j, y, rfl, hy0, hy, rfl, hj⟩ := hrel
        by_cases hlt2 : j < m
        · obtain ⟨b, off, rfl, hc⟩ := HO.out (by omega)
          have cm : w.cell? ⟨b, off + j, none⟩ = some (.string (O j)) := hc _ hlt2
          have hz := ZO.out j hlt2
          clear hc
          by_cases hl2 : (1048576 : Int) < y + ((O j).size : Int)
          · go_wp2
            go_ret
            exact ⟨yes_no _, rfl⟩
          · go_wp2
            go_round
            case rel => exact ⟨j + 1, _, rfl, by omega, by omega, by go_num, by omega⟩
            case measure => simp [intOf]; omega
        · obtain rfl : j = m := by omega
          go_wp2
          go_ret
          exact ⟨yes_yes trivial, rfl⟩

end Go.Proofs.Qxb6630834a
