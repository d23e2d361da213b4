import Derived.Test.Qxb6630891aDoorShelf
import Derived.WalkKit
import Derived.WalkSpells
import Derived.WalkLawsBesides
import Derived.BigQuiet
import Derived.Deep.CutBlock
import Derived.Lib.SliceRun
import Derived.Lib.QuietBelow
import Derived.Test.Qxb6630891aDoorNums
namespace Go.Proofs.Qxb6630891aDoor
open Go.RowKit Go.Sort

theorem hide {p : Prop} (h : p) : Hid p := h

theorem Tryd.gPow : Tryd.prog.globalNamed powName = some 0 := by kernel_rfl

def Tab (w : World) : Prop := Lib.TabIs Tryd.prog w powName .u64 Lib.pow10Tab

theorem tab_below {w w' : World} (h : Tab w) (hb : Below w.heap.size w w') : Tab w' := by
  unfold Tab Lib.TabIs World.var? at h ⊢
  rw [Tryd.gPow] at h ⊢
  simp only [Option.bind_some] at h ⊢
  have hlt : 0 < w.heap.size := by
    rcases Nat.lt_or_ge 0 w.heap.size with h' | h'
    · exact h'
    · rw [Array.getElem?_eq_none h'] at h; cases h
  rw [hb.block 0 hlt]
  exact h

theorem below_form (w : World) (q : Nat) (os : Array Obj) : Below w.heap.size w (grow (w.drewN q) os) := below_regrown w (w.drawn + q) os

/-- The text of an Expiry. -/
def unitOf (h : Bool) (one : Bool) : List UInt8 := (if h then [104, 111, 117, 114] else [100, 97, 121]) ++ (if one then [] else [115])

def textOf (n : Int) (h : Bool) : List UInt8 := Lib.itoa n ++ 32 :: unitOf h (n == 1)

theorem string_any (n : Int) (h : Bool) (w : World) (h0 : -9223372036854775808 ≤ n) (h1 : n ≤ 9223372036854775807) (ht : Tab w) :
    Calls Tryd.prog 5 #[.agg #[.int .i64 n, .bool h]] w fun e w' => e = .returned (.string ⟨(textOf n h).toArray⟩) ∧ Below w.heap.size w w' := by
  have HT := hide (tab_below ht ((Below.refl _ _).alloc (Nat.le_refl _) (.cells #[.int .i64 n, .bool h] 23)))
  have HB := fun q os => hide (((Below.refl w.heap.size w).alloc (Nat.le_refl _) (.cells #[.int .i64 n, .bool h] 23)).trans ((below_form (w.alloc (.cells #[.int .i64 n, .bool h] 23)) q os).mono (by simp)))
  have hl := Lib.itoa_length_le n h0 h1
  clear ht
  have c := Tryd.strconv_FormatInt_10 n h0 h1 _ HT.out
  have C := hide c
  clear c
  cases h
  · by_cases hn : n = 1
    · have hnb : (n != 1) = false := by simp [hn]
      have HX := hide (show ByteArray.mk (Lib.itoa n).toArray ++ ⟨#[32]⟩ ++ ⟨#[100, 97, 121]⟩ = ⟨(textOf n false).toArray⟩ by simp [hn, textOf, unitOf, ByteArray.ext_iff])
      clear hn
      go_enter Tryd.func5, Tryd.ntmps5
      go_wp2_with fail
      refine C.out.mono ?_
      rintro e w' ⟨rfl, q, os, rfl⟩
      go_wp2_with fail
      all_goals first
        | (exfalso; omega)
        | skip
      go_ret
      exact ⟨by rw [← HX.out]; rfl, (HB q os).out⟩
    · have hnb : (n != 1) = true := by simp [hn]
      have HX := hide (show ByteArray.mk (Lib.itoa n).toArray ++ ⟨#[32]⟩ ++ (⟨#[100, 97, 121]⟩ ++ ⟨#[115]⟩) = ⟨(textOf n false).toArray⟩ by simp [hn, textOf, unitOf, ByteArray.ext_iff])
      go_enter Tryd.func5, Tryd.ntmps5
      go_wp2_with fail
      refine C.out.mono ?_
      rintro e w' ⟨rfl, q, os, rfl⟩
      go_wp2_with fail
      all_goals first
        | (exfalso; omega)
        | skip
      go_ret
      exact ⟨by rw [← HX.out]; rfl, (HB q os).out⟩
  · by_cases hn : n = 1
    · have hnb : (n != 1) = false := by simp [hn]
      have HX := hide (show ByteArray.mk (Lib.itoa n).toArray ++ ⟨#[32]⟩ ++ ⟨#[104, 111, 117, 114]⟩ = ⟨(textOf n true).toArray⟩ by simp [hn, textOf, unitOf, ByteArray.ext_iff])
      clear hn
      go_enter Tryd.func5, Tryd.ntmps5
      go_wp2_with fail
      refine C.out.mono ?_
      rintro e w' ⟨rfl, q, os, rfl⟩
      go_wp2_with fail
      all_goals first
        | (exfalso; omega)
        | skip
      go_ret
      exact ⟨by rw [← HX.out]; rfl, (HB q os).out⟩
    · have hnb : (n != 1) = true := by simp [hn]
      have HX := hide (show ByteArray.mk (Lib.itoa n).toArray ++ ⟨#[32]⟩ ++ (⟨#[104, 111, 117, 114]⟩ ++ ⟨#[115]⟩) = ⟨(textOf n true).toArray⟩ by simp [hn, textOf, unitOf, ByteArray.ext_iff])
      go_enter Tryd.func5, Tryd.ntmps5
      go_wp2_with fail
      refine C.out.mono ?_
      rintro e w' ⟨rfl, q, os, rfl⟩
      go_wp2_with fail
      all_goals first
        | (exfalso; omega)
        | skip
      go_ret
      exact ⟨by rw [← HX.out]; rfl, (HB q os).out⟩

theorem dec_any (n : Int) (w : World) (h0 : -9223372036854775808 ≤ n) (h1 : n ≤ 9223372036854775807) :
    Calls Tryd.prog 9 #[.int .i64 n] w fun e w' => e = .returned (.int .i64 ((Lib.itoa n).length : Nat)) ∧ w' = w := by
  by_cases hn : n < 0
  · obtain ⟨u, rfl⟩ : ∃ u : Nat, n = -(u : Int) := ⟨n.natAbs, by omega⟩
    have hx := neg_abs u (by omega) (by omega)
    have HL := hide (Lib.itoa_length_le _ h0 h1)
    have HT := hide (itoa_len_neg u (by omega))
    generalize (Lib.itoa (-(u : Int))).length = T at *
    go_enter Tryd.func9, Tryd.ntmps9
    go_wp2
    go_loop [3, 4] (fun a b => ∃ wv m : Nat, a = .int .i64 wv ∧ b = .int .u64 m ∧ wv + Lib.nDigits m = T + 1 ∧ m ≤ 9223372036854775808) (fun _ b => (intOf b).toNat)
    case atStart => exact ⟨2, u, rfl, rfl, by rw [HT.out]; omega, by omega⟩
    case round =>
      obtain ⟨wv, m, rfl, rfl, hw, hm⟩ := hrel
      have hTl := HL.out
      have hdp := Lib.nDigits_pos m
      by_cases h10 : m < 10
      · have h10' : (m : Int) < 10 := by omega
        rw [Lib.nDigits_small h10] at hw
        go_wp2
        go_ret
        exact ⟨by simp; omega, rfl⟩
      · have h10' : (10 : Int) ≤ (m : Int) := by omega
        rw [Lib.nDigits_big h10] at hw
        have hdp2 := Lib.nDigits_pos (m / 10)
        go_wp2
        go_round
        case rel => exact ⟨wv + 1, m / 10, by go_num, by simp, by omega, by omega⟩
        case measure => simp [intOf]; omega
  · obtain ⟨u, rfl⟩ : ∃ u : Nat, n = (u : Int) := ⟨n.natAbs, by omega⟩
    have HL := hide (Lib.itoa_length_le _ h0 h1)
    have HT := hide (itoa_len_pos u)
    generalize (Lib.itoa (u : Int)).length = T at *
    go_enter Tryd.func9, Tryd.ntmps9
    go_wp2
    go_loop [3, 4] (fun a b => ∃ wv m : Nat, a = .int .i64 wv ∧ b = .int .u64 m ∧ wv + Lib.nDigits m = T + 1 ∧ m ≤ 9223372036854775808) (fun _ b => (intOf b).toNat)
    case atStart => exact ⟨1, u, rfl, rfl, by rw [HT.out]; omega, by omega⟩
    case round =>
      obtain ⟨wv, m, rfl, rfl, hw, hm⟩ := hrel
      have hTl := HL.out
      have hdp := Lib.nDigits_pos m
      by_cases h10 : m < 10
      · have h10' : (m : Int) < 10 := by omega
        rw [Lib.nDigits_small h10] at hw
        go_wp2
        go_ret
        exact ⟨by simp; omega, rfl⟩
      · have h10' : (10 : Int) ≤ (m : Int) := by omega
        rw [Lib.nDigits_big h10] at hw
        have hdp2 := Lib.nDigits_pos (m / 10)
        go_wp2
        go_round
        case rel => exact ⟨wv + 1, m / 10, by go_num, by simp, by omega, by omega⟩
        case measure => simp [intOf]; omega

theorem len_any (n : Int) (h : Bool) (w : World) (h0 : -9223372036854775808 ≤ n) (h1 : n ≤ 9223372036854775807) :
    Calls Tryd.prog 7 #[.int .i64 n, .bool h] w fun e w' => e = .returned (.int .i64 ((textOf n h).length : Nat)) ∧ w' = w := by
  have hl := Lib.itoa_length_le n h0 h1
  have c := dec_any n w h0 h1
  have C := hide c
  clear c
  have hT : (textOf n h).length = (Lib.itoa n).length + 1 + (if h then 4 else 3) + (if n = 1 then 0 else 1) := by
    cases h <;> by_cases hn : n = 1 <;> simp [textOf, unitOf, hn] <;> omega
  have HT := hide hT
  clear hT
  generalize (Lib.itoa n).length = T at *
  generalize (textOf n h).length = R at *
  cases h
  · by_cases hn : n = 1
    · have hnb : (n != 1) = false := by simp [hn]
      have HR := hide (show R = T + 1 + 3 by have := HT.out; simpa [hn] using this)
      clear hn
      go_enter Tryd.func7, Tryd.ntmps7
      go_wp2_with fail
      refine C.out.mono ?_
      rintro e w' ⟨rfl, hw⟩
      obtain rfl := hw.symm
      go_wp2
      go_ret
      exact ⟨by rw [HR.out]; simp, rfl⟩
    · have hnb : (n != 1) = true := by simp [hn]
      have HR := hide (show R = T + 1 + 3 + 1 by have := HT.out; simpa [hn] using this)
      clear hn
      go_enter Tryd.func7, Tryd.ntmps7
      go_wp2_with fail
      refine C.out.mono ?_
      rintro e w' ⟨rfl, hw⟩
      obtain rfl := hw.symm
      go_wp2
      go_ret
      exact ⟨by rw [HR.out]; simp, rfl⟩
  · by_cases hn : n = 1
    · have hnb : (n != 1) = false := by simp [hn]
      have HR := hide (show R = T + 1 + 4 by have := HT.out; simpa [hn] using this)
      clear hn
      go_enter Tryd.func7, Tryd.ntmps7
      go_wp2_with fail
      refine C.out.mono ?_
      rintro e w' ⟨rfl, hw⟩
      obtain rfl := hw.symm
      go_wp2
      go_ret
      exact ⟨by rw [HR.out]; simp, rfl⟩
    · have hnb : (n != 1) = true := by simp [hn]
      have HR := hide (show R = T + 1 + 4 + 1 by have := HT.out; simpa [hn] using this)
      clear hn
      go_enter Tryd.func7, Tryd.ntmps7
      go_wp2_with fail
      refine C.out.mono ?_
      rintro e w' ⟨rfl, hw⟩
      obtain rfl := hw.symm
      go_wp2
      go_ret
      exact ⟨by rw [HR.out]; simp, rfl⟩

end Go.Proofs.Qxb6630891aDoor
