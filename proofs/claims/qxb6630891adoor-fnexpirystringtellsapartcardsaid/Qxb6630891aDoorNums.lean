import Derived.Laws.BitsAllLaws
import Derived.Lib.ItoaLen
namespace Go.Proofs.Qxb6630891aDoor
open Go.Lib

theorem not64_nat (a : Nat) (h : a < 18446744073709551616) : 18446744073709551615 ^^^ a = 18446744073709551615 - a := by
  have e : (BitVec.allOnes 64 ^^^ BitVec.ofNat 64 a).toNat = (~~~ (BitVec.ofNat 64 a)).toNat := by rw [BitVec.allOnes_xor]
  rw [BitVec.toNat_not, BitVec.toNat_xor, BitVec.toNat_allOnes, BitVec.toNat_ofNat] at e
  rw [Nat.mod_eq_of_lt (by simpa using h)] at e
  simpa using e

theorem not64 (a : Nat) (h : a < 18446744073709551616) : bits .xor .u64 IntKind.u64.max (a : Int) = ((18446744073709551615 - a : Nat) : Int) := by
  have e : (IntKind.u64.max : Int) = ((18446744073709551615 : Nat) : Int) := by decide
  rw [e, u64_xor_nat _ _ (by decide) h, not64_nat a h]

theorem wrap_u64 (x : Int) : IntKind.u64.wrap x = x % 18446744073709551616 := by
  simp [IntKind.wrap, IntKind.bits, IntKind.signed]

/-- '^uint64(n) + 1' of a negative n. -/
theorem neg_abs (u : Nat) (h1 : 1 ≤ u) (h2 : u ≤ 9223372036854775808) : IntKind.u64.wrap (bits .xor .u64 IntKind.u64.max (IntKind.u64.wrap (-(u : Int))) + 1) = (u : Int) := by
  have e : IntKind.u64.wrap (-(u : Int)) = ((18446744073709551616 - u : Nat) : Int) := by rw [wrap_u64]; omega
  rw [e, not64 _ (by omega), wrap_u64]
  omega

/-- 'int64(^mag + 1)'. -/
theorem back_neg (u : Nat) (h1 : 1 ≤ u) (h2 : u ≤ 9223372036854775808) : IntKind.i64.wrap (IntKind.u64.wrap (bits .xor .u64 IntKind.u64.max (u : Int) + 1)) = -(u : Int) := by
  rw [not64 _ (by omega), wrap_u64]
  simp [IntKind.wrap, IntKind.bits, IntKind.signed]
  omega

theorem itoa_len_neg (u : Nat) (h : 1 ≤ u) : (itoa (-(u : Int))).length = nDigits u + 1 := by rw [itoa_neg u h, List.length_cons, decDigits_length]

theorem itoa_len_pos (u : Nat) : (itoa (u : Int)).length = nDigits u := by rw [itoa_nonneg, decDigits_length]

theorem pow_le_of (u : Nat) (h : 1 ≤ u) : 10 ^ (nDigits u - 1) ≤ u := by
  induction u using Nat.strongRecOn with
  | _ u ih =>
    by_cases h10 : u < 10
    · rw [nDigits_small h10]; simpa using h
    · rw [nDigits_big h10]
      have := ih (u / 10) (by omega) (by omega)
      have hp := nDigits_pos (u / 10)
      obtain ⟨k, hk⟩ : ∃ k, nDigits (u / 10) = k + 1 := ⟨nDigits (u / 10) - 1, by omega⟩
      rw [hk] at this ⊢
      simp only [Nat.add_sub_cancel] at this ⊢
      rw [Nat.pow_succ]
      omega

theorem nDigits_le19 (u : Nat) (h : u ≤ 9223372036854775808) : nDigits u ≤ 19 := by
  refine Nat.le_of_not_lt fun q => ?_
  by_cases h0 : u = 0
  · subst h0; rw [nDigits_small (by omega)] at q; omega
  · have h1 := pow_le_of u (by omega)
    have h2 : 10 ^ 19 ≤ 10 ^ (nDigits u - 1) := Nat.pow_le_pow_right (by decide) (by omega)
    omega

/-- What the first k digits of u say. -/
def magAt (u k : Nat) : Nat := u / 10 ^ (nDigits u - k)

/-- Digit k from the left. -/
def digAt (u k : Nat) : Nat := u / 10 ^ (nDigits u - 1 - k) % 10

theorem digAt_lt (u k : Nat) : digAt u k < 10 := Nat.mod_lt _ (by decide)

theorem magAt_zero (u : Nat) : magAt u 0 = 0 := Nat.div_eq_of_lt (by simpa using lt_pow_nDigits u)

theorem magAt_full (u : Nat) : magAt u (nDigits u) = u := by simp [magAt]

theorem magAt_le (u k : Nat) : magAt u k ≤ u := Nat.div_le_self _ _

theorem magAt_step (u k : Nat) (hk : k < nDigits u) : magAt u (k + 1) = magAt u k * 10 + digAt u k := by
  unfold magAt digAt
  have e1 : nDigits u - k = (nDigits u - 1 - k) + 1 := by omega
  have e2 : nDigits u - (k + 1) = nDigits u - 1 - k := by omega
  rw [e1, e2, Nat.pow_succ, ← Nat.div_div_eq_div_mul]
  omega

theorem digAt_first (u : Nat) (h : 1 < nDigits u) : digAt u 0 ≠ 0 := by
  have hu : 10 ≤ u := by
    refine Nat.le_of_not_lt fun q => ?_
    rw [nDigits_small q] at h; omega
  have h1 := pow_le_of u (by omega)
  have h2 := lt_pow_nDigits u
  unfold digAt
  simp only [Nat.sub_zero]
  obtain ⟨k, hk⟩ : ∃ k, nDigits u = k + 1 := ⟨nDigits u - 1, by omega⟩
  rw [hk] at h1 h2 ⊢
  simp only [Nat.add_sub_cancel] at h1 ⊢
  rw [Nat.pow_succ] at h2
  have hp : 0 < 10 ^ k := Nat.pow_pos (by decide)
  have h3 : 1 ≤ u / 10 ^ k := (Nat.le_div_iff_mul_le hp).2 (by simpa using h1)
  have h4 : u / 10 ^ k < 10 := (Nat.div_lt_iff_lt_mul hp).2 (by rw [Nat.mul_comm]; exact h2)
  rw [Nat.mod_eq_of_lt h4]
  omega

theorem dec_get (u k : Nat) (hk : k < nDigits u) : ∃ b, (decDigits u)[k]? = some b ∧ b.toNat = 48 + digAt u k := by
  refine ⟨dg u (nDigits u - 1 - k), ?_, ?_⟩
  · rw [decDigits_eq]; simp [hk]
  · have := digAt_lt u k
    unfold digAt at this ⊢
    simp only [dg, UInt8.toNat_ofNat']
    omega

end Go.Proofs.Qxb6630891aDoor
