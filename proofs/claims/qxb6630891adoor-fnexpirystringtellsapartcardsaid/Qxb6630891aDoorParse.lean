import Derived.Test.Qxb6630891aDoorText
namespace Go.Proofs.Qxb6630891aDoor
open Go.RowKit Go.Sort

/-- The four units: the bytes, is it hours, is it the plural. -/
def IsUnit (R : ByteArray) (hh pl : Bool) : Prop :=
  (R = ⟨#[100, 97, 121]⟩ ∧ hh = false ∧ pl = false) ∨ (R = ⟨#[100, 97, 121, 115]⟩ ∧ hh = false ∧ pl = true) ∨ (R = ⟨#[104, 111, 117, 114]⟩ ∧ hh = true ∧ pl = false) ∨ (R = ⟨#[104, 111, 117, 114, 115]⟩ ∧ hh = true ∧ pl = true)

theorem results_tmp4 {fn : Func} {t u v x : Tmp} (h : fn.results = #[.tmp t, .tmp u, .tmp v, .tmp x]) (tmps : Array Value) (P : Program) (w : World) :
    (results fn tmps).run P w = .ok (.tuple #[tmps.getD t undef, tmps.getD u undef, tmps.getD v undef, tmps.getD x undef]) w := by
  simp [results, h]

theorem back_neg64 (u : Nat) (h1 : 1 ≤ u) (h2 : u ≤ 9223372036854775808) : wrap64 (IntKind.u64.wrap (bits .xor .u64 IntKind.u64.max (u : Int) + 1)) = -(u : Int) := by
  rw [not64 _ (by omega), wrap_u64]
  simp [wrap64]
  omega

theorem step_wrap (M d : Nat) (h : M * 10 + d ≤ 9223372036854775808) : IntKind.u64.wrap (IntKind.u64.wrap ((M : Int) * 10) + (48 + (d : Int) - 48)) = ((M * 10 + d : Nat) : Int) := by
  rw [wrap_u64, wrap_u64]
  omega

set_option maxRecDepth 100000 in
set_option maxHeartbeats 4000000 in
theorem parse_neg (u : Nat) (s R : ByteArray) (hh pl : Bool) (rl : Nat) (w : World) (hR : IsUnit R hh pl) (hu1 : 1 ≤ u) (hu2 : u ≤ 9223372036854775808) (hsz : s.size = 1 + Lib.nDigits u + 1 + rl) (hrl : rl ≤ 10)
    (c0 : ∀ h : 0 < s.size, (s[0]'h).toNat = 45) (cd : ∀ k, k < Lib.nDigits u → ∀ h : 1 + k < s.size, (s[1 + k]'h).toNat = 48 + digAt u k) (cs : ∀ h : 1 + Lib.nDigits u < s.size, (s[1 + Lib.nDigits u]'h).toNat = 32)
    (hex : s.extract (1 + Lib.nDigits u + 1) (1 + Lib.nDigits u + 1 + rl) = R) :
    Calls Tryd.prog 6 #[.string s] w fun e w' => e = .returned (.tuple #[.int .i64 (-(u : Int)), .bool hh, .bool pl, .bool true]) ∧ w' = w := by
  have hnd := nDigits_le19 u (by omega)
  have hnp := Lib.nDigits_pos u
  have hpos : 0 < s.size := by omega
  have e0 : ((s[0]'hpos).toNat : Int) = 45 := by rw [c0 hpos]; rfl
  have HCD := hide cd
  have HCS := hide cs
  have HR := hide hR
  clear c0 cd cs hR
  go_enter Tryd.func6, Tryd.ntmps6
  go_wp2
  go_loop [6, 9] (fun a b => ∃ j : Nat, a = .int .i64 j ∧ 1 ≤ j ∧ j ≤ 1 + Lib.nDigits u ∧ b = .int .u64 (magAt u (j - 1) : Nat)) (fun a _ => 1 + Lib.nDigits u - (intOf a).toNat)
  case atStart => exact ⟨1, rfl, by omega, by omega, by simp [magAt_zero]⟩
  case round =>
    obtain ⟨j, rfl, hj1, hj2, rfl⟩ := hrel
    by_cases hlt : j < 1 + Lib.nDigits u
    · have hjs : j < s.size := by omega
      obtain ⟨k, rfl⟩ : ∃ k, j = 1 + k := ⟨j - 1, by omega⟩
      have ec := HCD.out k (by omega) hjs
      have hst := magAt_step u k (by omega)
      have hle := magAt_le u (k + 1)
      have hdl := digAt_lt u k
      rw [show 1 + k - 1 = k by omega]
      generalize digAt u k = d at *
      generalize hM : magAt u k = M at *
      clear hM
      have ec' : ((s[1 + k]'hjs).toNat : Int) = 48 + (d : Int) := by rw [ec]; simp
      have HST := hide hst
      have hkk : k < 19 := by omega
      clear hst ec
      go_wp2
      refine ⟨⟨1 + k + 1, by simp, by omega, by omega, ?_⟩, by simp [intOf]; omega⟩
      rw [show 1 + k + 1 - 1 = k + 1 by omega, HST.out, step_wrap M d (by have := HST.out; omega)]
    · obtain rfl : j = 1 + Lib.nDigits u := by omega
      have hjs : 1 + Lib.nDigits u < s.size := by omega
      have ec : ((s[1 + Lib.nDigits u]'hjs).toNat : Int) = 32 := by rw [HCS.out hjs]; rfl
      rw [show 1 + Lib.nDigits u - 1 = Lib.nDigits u by omega, magAt_full u]
      have HW := hide (back_neg64 u hu1 hu2)
      by_cases hone : Lib.nDigits u ≤ 1
      · have hone' : ¬ ((1 : Int) < 1 + (Lib.nDigits u : Int) - 1) := by omega
        rcases HR.out with ⟨rfl, rfl, rfl⟩ | ⟨rfl, rfl, rfl⟩ | ⟨rfl, rfl, rfl⟩ | ⟨rfl, rfl, rfl⟩
        all_goals
          go_wp2
          try simp only [Exit.inBlock, Exit.then]
          refine bodyPost_ret (results_tmp4 rfl _ _ _) rfl ?_
          exact ⟨by rw [← HW.out]; rfl, rfl⟩
      · have h1s : 1 < s.size := by omega
        have hf := HCD.out 0 (by omega) (by omega)
        have hfz := digAt_first u (by omega)
        have e1 : (((s[1]'h1s).toNat : Int) == 48) = false := by
          have : (s[1]'h1s).toNat = 48 + digAt u 0 := by simpa using hf
          rw [this]; simp; omega
        have hone' : (1 : Int) < 1 + (Lib.nDigits u : Int) - 1 := by omega
        rcases HR.out with ⟨rfl, rfl, rfl⟩ | ⟨rfl, rfl, rfl⟩ | ⟨rfl, rfl, rfl⟩ | ⟨rfl, rfl, rfl⟩
        all_goals
          go_wp2
          try simp only [Exit.inBlock, Exit.then]
          refine bodyPost_ret (results_tmp4 rfl _ _ _) rfl ?_
          exact ⟨by rw [← HW.out]; rfl, rfl⟩

set_option maxRecDepth 100000 in
set_option maxHeartbeats 4000000 in
theorem parse_pos (u : Nat) (s R : ByteArray) (hh pl : Bool) (rl : Nat) (w : World) (hR : IsUnit R hh pl) (hu2 : u ≤ 9223372036854775807) (hsz : s.size = Lib.nDigits u + 1 + rl) (hrl : rl ≤ 10)
     (cd : ∀ k, k < Lib.nDigits u → ∀ h : k < s.size, (s[k]'h).toNat = 48 + digAt u k) (cs : ∀ h : Lib.nDigits u < s.size, (s[Lib.nDigits u]'h).toNat = 32)
    (hex : s.extract (Lib.nDigits u + 1) (Lib.nDigits u + 1 + rl) = R) :
    Calls Tryd.prog 6 #[.string s] w fun e w' => e = .returned (.tuple #[.int .i64 (u : Int), .bool hh, .bool pl, .bool true]) ∧ w' = w := by
  have hnd := nDigits_le19 u (by omega)
  have hnp := Lib.nDigits_pos u
  have hpos : 0 < s.size := by omega
  have e0 : (((s[0]'hpos).toNat : Int) == 45) = false := by
    have : (s[0]'hpos).toNat = 48 + digAt u 0 := by simpa using cd 0 (by omega) (by omega)
    rw [this]; simp; omega
  have HCD := hide cd
  have HCS := hide cs
  have HR := hide hR
  clear cd cs hR
  go_enter Tryd.func6, Tryd.ntmps6
  go_wp2
  go_loop [6, 9] (fun a b => ∃ j : Nat, a = .int .i64 j ∧ 0 ≤ j ∧ j ≤ Lib.nDigits u ∧ b = .int .u64 (magAt u (j - 0) : Nat)) (fun a _ => Lib.nDigits u - (intOf a).toNat)
  case atStart => exact ⟨0, rfl, by omega, by omega, by simp [magAt_zero]⟩
  case round =>
    obtain ⟨j, rfl, hj1, hj2, rfl⟩ := hrel
    by_cases hlt : j < Lib.nDigits u
    · have hjs : j < s.size := by omega
      obtain ⟨k, hk⟩ : ∃ k, k = j := ⟨j, rfl⟩
      subst hk
      have ec := HCD.out k (by omega) hjs
      have hst := magAt_step u k (by omega)
      have hle := magAt_le u (k + 1)
      have hdl := digAt_lt u k
      rw [show k - 0 = k by omega]
      generalize digAt u k = d at *
      generalize hM : magAt u k = M at *
      clear hM
      have ec' : ((s[k]'hjs).toNat : Int) = 48 + (d : Int) := by rw [ec]; simp
      have HST := hide hst
      have hkk : k < 19 := by omega
      clear hst ec
      go_wp2
      refine ⟨⟨k + 1, by simp, by omega, by omega, ?_⟩, by simp [intOf]; omega⟩
      rw [show k + 1 - 0 = k + 1 by omega, HST.out, step_wrap M d (by have := HST.out; omega)]
    · obtain rfl : j = Lib.nDigits u := by omega
      have hjs : Lib.nDigits u < s.size := by omega
      have ec : ((s[Lib.nDigits u]'hjs).toNat : Int) = 32 := by rw [HCS.out hjs]; rfl
      rw [show Lib.nDigits u - 0 = Lib.nDigits u by omega, magAt_full u]

      by_cases hone : Lib.nDigits u ≤ 1
      · have hone' : ¬ ((1 : Int) < (Lib.nDigits u : Int)) := by omega
        rcases HR.out with ⟨rfl, rfl, rfl⟩ | ⟨rfl, rfl, rfl⟩ | ⟨rfl, rfl, rfl⟩ | ⟨rfl, rfl, rfl⟩
        all_goals
          go_wp2
          try simp only [Exit.inBlock, Exit.then]
          refine bodyPost_ret (results_tmp4 rfl _ _ _) rfl ?_
          exact ⟨rfl, rfl⟩
      · have h1s : 0 < s.size := by omega
        have hf := HCD.out 0 (by omega) (by omega)
        have hfz := digAt_first u (by omega)
        have e1 : (((s[0]'h1s).toNat : Int) == 48) = false := by
          have : (s[0]'h1s).toNat = 48 + digAt u 0 := by simpa using hf
          rw [this]; simp; omega
        have hone' : (1 : Int) < (Lib.nDigits u : Int) := by omega
        rcases HR.out with ⟨rfl, rfl, rfl⟩ | ⟨rfl, rfl, rfl⟩ | ⟨rfl, rfl, rfl⟩ | ⟨rfl, rfl, rfl⟩
        all_goals
          go_wp2
          try simp only [Exit.inBlock, Exit.then]
          refine bodyPost_ret (results_tmp4 rfl _ _ _) rfl ?_
          exact ⟨rfl, rfl⟩

end Go.Proofs.Qxb6630891aDoor
