import Derived.Test.Qxb6630834aProg
import Derived.Test.Qxb6630834aPlain
import Derived.WalkKit
import Derived.WalkSpells
import Derived.WalkLawsBesides
import Derived.BigQuiet
import Derived.Deep.CutBlock
import Derived.Lib.SliceRun
namespace Go.Proofs.Qxb6630834a
open Go.RowKit

theorem hide {p : Prop} (h : p) : Hid p := h

/-- The strings' bytes, place by place. -/
def key (S : Nat → ByteArray) (i : Nat) : List UInt8 := (S i).toList

/-- WHAT THE WALK IS TOLD OF A SLICE OF STRINGS. -/
def Strs (w : World) (ao : Option Addr) (n : Nat) (S : Nat → ByteArray) : Prop :=
  0 < n → ∃ b off, ao = some ⟨b, off, none⟩ ∧ ∀ i, i < n → w.cell? ⟨b, off + i, none⟩ = some (.string (S i))

theorem nan16_any (x : ByteArray) (w : World) : Calls Try.prog 16 #[.string x] w fun e w' => e = .returned (.bool false) ∧ w' = w := by
  go_enter Try.func16, Try.ntmps16
  go_wp2
  go_ret
  exact ⟨by simp, rfl⟩

theorem nan17_any (x : ByteArray) (w : World) : Calls Try.prog 17 #[.string x] w fun e w' => e = .returned (.bool false) ∧ w' = w := by
  go_enter Try.func17, Try.ntmps17
  go_wp2
  go_ret
  exact ⟨by simp, rfl⟩

theorem less_any (x y : ByteArray) (w : World) : Calls Try.prog 15 #[.string x, .string y] w fun e w' => e = .returned (.bool (Op.bytesLess x.toList y.toList)) ∧ w' = w := by
  go_enter Try.func15, Try.ntmps15
  go_wp2_with (go_at_call 17; refine (nan17_any _ _).mono ?_; rintro e w' ⟨rfl, rfl⟩)
  go_ret
  exact ⟨rfl, rfl⟩

set_option maxHeartbeats 1000000 in
theorem search_any (ao : Option Addr) (n cap : Nat) (S : Nat → ByteArray) (t : ByteArray) (w : World) (hn : n ≤ 1048576) (hs : Strs w ao n S) (ha : Asc (key S) n) :
    Calls Try.prog 14 #[.slice ao n cap, .string t] w fun e w' => (∃ p : Nat, IsPos (key S) n t.toList p ∧ e = .returned (.tuple #[.int .i64 p, .bool (hasB (key S) n t.toList)])) ∧ w' = w := by
  have HS := hide hs
  have HA := hide ha
  clear hs ha
  go_enter Try.func14, Try.ntmps14
  go_wp2
  go_loop [7, 8] (fun a b => ∃ lo hi : Nat, a = .int .i64 lo ∧ b = .int .i64 hi ∧ lo ≤ hi ∧ hi ≤ n ∧ (∀ i, i < lo → lt (key S i) t.toList = true) ∧ (∀ i, hi ≤ i → i < n → lt (key S i) t.toList = false)) (fun a b => (intOf b - intOf a).toNat)
  case atStart => exact ⟨0, n, rfl, rfl, Nat.zero_le _, Nat.le_refl _, fun i h => by omega, fun i h1 h2 => by omega⟩
  case round =>
    obtain ⟨lo, hi, rfl, rfl, hlh, hin, h1, h2⟩ := hrel
    have H1 := hide h1
    have H2 := hide h2
    clear h1 h2
    by_cases hlt : lo < hi
    · obtain ⟨b, off, rfl, hc⟩ := HS.out (by omega)
      have cm : w.cell? ⟨b, off + (lo + hi) / 2, none⟩ = some (.string (S ((lo + hi) / 2))) := hc _ (by omega)
      have hm : (lo + hi) / 2 < n := by omega
      have up := pos_up HA.out hm (t := t.toList)
      have dn := pos_down HA.out (h := (lo + hi) / 2) (t := t.toList)
      have ek : key S ((lo + hi) / 2) = (S ((lo + hi) / 2)).toList := rfl
      rw [ek] at up dn
      generalize S ((lo + hi) / 2) = y at *
      have UP := hide up
      have DN := hide dn
      clear up dn ek hc
      cases hyx : Op.bytesLess y.toList t.toList
      · go_wp2_with (go_at_call 15; refine (less_any _ _ _).mono ?_; rintro e w' ⟨rfl, rfl⟩; rw [hyx])
        go_round
        case rel => exact ⟨lo, (lo + hi) / 2, rfl, by rw [show ((lo : Int) + (hi : Int)) / 2 = (((lo + hi) / 2 : Nat) : Int) by omega], by omega, by omega, H1.out, DN.out hyx⟩
        case measure => simp [intOf]; omega
      · go_wp2_with (go_at_call 15; refine (less_any _ _ _).mono ?_; rintro e w' ⟨rfl, rfl⟩; rw [hyx])
        go_round
        case rel => exact ⟨(lo + hi) / 2 + 1, hi, by rw [show ((lo : Int) + (hi : Int)) / 2 + 1 = (((lo + hi) / 2 + 1 : Nat) : Int) by omega], rfl, by omega, hin, UP.out hyx, H2.out⟩
        case measure => simp [intOf]; omega
    · obtain rfl : hi = lo := by omega
      have hp : IsPos (key S) n t.toList hi := ⟨hin, H1.out, H2.out⟩
      have hh := pos_has HA.out hp
      have HP := hide hp
      have HH := hide hh
      clear hp hh
      by_cases hin2 : hi < n
      · obtain ⟨b, off, rfl, hc⟩ := HS.out (by omega)
        have cm : w.cell? ⟨b, off + hi, none⟩ = some (.string (S hi)) := hc _ hin2
        have ek : key S hi = (S hi).toList := rfl
        have hlt2 : (hi : Int) < (n : Int) := by omega
        go_wp2_with (go_at_call 16; refine (nan16_any _ _).mono ?_; rintro e w' ⟨rfl, rfl⟩)
        all_goals
          go_ret2
          refine ⟨⟨hi, HP.out, ?_⟩, rfl⟩
          rw [HH.out, ek]
          simp_all
      · have hnl : decide ((hi : Int) < (n : Int)) = false := by simp; omega
        go_wp2_with (go_at_call 16; refine (nan16_any _ _).mono ?_; rintro e w' ⟨rfl, rfl⟩)
        go_ret2
        refine ⟨⟨hi, HP.out, ?_⟩, rfl⟩
        rw [HH.out]
        simp [hin2]

end Go.Proofs.Qxb6630834a
