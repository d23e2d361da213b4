namespace Go.Proofs.Qxb6630804a.Plain

/-- What 'gap' holds after k rounds of its loop, over the offsets 'f 0 .. f (n-1)'. -/
def gapTo (p : Int) (f : Nat → Int) (n : Nat) : Nat → Int
  | 0 => p - f (n - 1) + f 0
  | k + 1 => min (gapTo p f n k) (f (k + 1) - f k)

theorem gapTo_wrap (p : Int) (f : Nat → Int) (n k : Nat) : gapTo p f n k ≤ p - f (n - 1) + f 0 := by
  induction k with
  | zero => exact Int.le_refl _
  | succ k ih => exact Int.le_trans (Int.min_le_left _ _) ih

theorem gapTo_le (p : Int) (f : Nat → Int) (n k i : Nat) (h : i < k) : gapTo p f n k ≤ f (i + 1) - f i := by
  induction k with
  | zero => omega
  | succ k ih =>
    by_cases e : i = k
    · subst e; exact Int.min_le_right _ _
    · exact Int.le_trans (Int.min_le_left _ _) (ih (by omega))

theorem gapTo_mem (p : Int) (f : Nat → Int) (n k : Nat) : gapTo p f n k = p - f (n - 1) + f 0 ∨ ∃ i, i < k ∧ gapTo p f n k = f (i + 1) - f i := by
  induction k with
  | zero => exact .inl rfl
  | succ k ih =>
    by_cases h : gapTo p f n k ≤ f (k + 1) - f k
    · have e : gapTo p f n (k + 1) = gapTo p f n k := Int.min_eq_left h
      rw [e]
      rcases ih with ih | ⟨i, hi, ih⟩
      · exact .inl ih
      · exact .inr ⟨i, by omega, ih⟩
    · have e : gapTo p f n (k + 1) = f (k + 1) - f k := Int.min_eq_right (by omega)
      exact .inr ⟨k, by omega, e⟩

/-- The offsets ascend (not strictly). -/
def Asc (f : Nat → Int) (n : Nat) : Prop := ∀ i, i + 1 < n → f i ≤ f (i + 1)

theorem asc_le {f : Nat → Int} {n : Nat} (h : Asc f n) (a b : Nat) (hab : a ≤ b) (hb : b < n) : f a ≤ f b := by
  induction b with
  | zero => have : a = 0 := by omega
            subst this; exact Int.le_refl _
  | succ b ih =>
    by_cases e : a = b + 1
    · subst e; exact Int.le_refl _
    · exact Int.le_trans (ih (by omega) (by omega)) (h b hb)

/-- What the law's double loop knows of 'want' when it stands at (i, j). -/
def Want (p : Int) (f : Nat → Int) (n i j : Nat) (w : Int) : Prop :=
  w ≤ p ∧ (∀ a b, a < b → b < n → (a < i ∨ a = i ∧ b < j) → w ≤ f b - f a ∧ w ≤ p - (f b - f a)) ∧
  (w = p ∨ ∃ a b, a < b ∧ b < n ∧ (w = f b - f a ∨ w = p - (f b - f a)))

theorem want_start (p : Int) (f : Nat → Int) (n : Nat) : Want p f n 0 1 p :=
  ⟨Int.le_refl _, fun a b _ _ h => by omega, .inl rfl⟩

theorem want_next {p : Int} {f : Nat → Int} {n i : Nat} {w : Int} (h : Want p f n i n w) : Want p f n (i + 1) (i + 2) w :=
  ⟨h.1, fun a b hab hb hc => h.2.1 a b hab hb (by omega), h.2.2⟩

theorem want_step {p : Int} {f : Nat → Int} {n i j : Nat} {w : Int} (h : Want p f n i j w) (hij : i < j) (hj : j < n) {w' : Int}
    (l0 : w' ≤ w) (l1 : w' ≤ f j - f i) (l2 : w' ≤ p - (f j - f i)) (e : w' = w ∨ w' = f j - f i ∨ w' = p - (f j - f i)) : Want p f n i (j + 1) w' := by
  refine ⟨Int.le_trans l0 h.1, fun a b hab hb hc => ?_, ?_⟩
  · by_cases hx : a = i ∧ b = j
    · obtain ⟨rfl, rfl⟩ := hx; exact ⟨l1, l2⟩
    · have := h.2.1 a b hab hb (by omega)
      omega
  · rcases e with e | e | e
    · rw [e]; exact h.2.2
    · exact .inr ⟨i, j, hij, hj, .inl e⟩
    · exact .inr ⟨i, j, hij, hj, .inr e⟩

theorem want_done {p : Int} {f : Nat → Int} {n j : Nat} {w : Int} (hn : 0 < n) (ha : Asc f n) (h : Want p f n n j w) : gapTo p f n (n - 1) = w := by
  have hw := gapTo_wrap p f n (n - 1)
  have hp : f 0 ≤ f (n - 1) := asc_le ha 0 (n - 1) (by omega) (by omega)
  refine Int.le_antisymm ?_ ?_
  · rcases h.2.2 with e | ⟨a, b, hab, hb, e | e⟩
    · omega
    · have h1 := gapTo_le p f n (n - 1) a (by omega)
      have h2 := asc_le ha (a + 1) b (by omega) hb
      omega
    · have h1 := asc_le ha 0 a (by omega) (by omega)
      have h2 := asc_le ha b (n - 1) (by omega) (by omega)
      omega
  · rcases gapTo_mem p f n (n - 1) with e | ⟨i, hi, e⟩
    · by_cases h1 : n = 1
      · subst h1; have := h.1; simp at e ⊢; omega
      · have := h.2.1 0 (n - 1) (by omega) (by omega) (by omega)
        omega
    · have := h.2.1 i (i + 1) (by omega) (by omega) (by omega)
      omega

/-! ### The second law -/
/-- The offsets, the first moved behind the period's end. -/
def rot (p : Int) (f : Nat → Int) (n : Nat) (i : Nat) : Int := if i + 1 < n then f (i + 1) else f 0 + p

theorem gap_rot (p : Int) (f : Nat → Int) (n : Nat) (hn : 0 < n) : gapTo p f n (n - 1) = gapTo p (rot p f n) n (n - 1) := by
  have r1 : rot p f n (n - 1) = f 0 + p := by unfold rot; rw [if_neg (by omega)]
  have ru : ∀ i, i + 1 < n → rot p f n i = f (i + 1) := fun i hi => by unfold rot; rw [if_pos hi]
  have w1 := gapTo_wrap p f n (n - 1)
  have w2 := gapTo_wrap p (rot p f n) n (n - 1)
  by_cases h1 : n = 1
  · subst h1; simp [gapTo, rot]
  rw [r1, ru 0 (by omega)] at w2
  refine Int.le_antisymm ?_ ?_
  · rcases gapTo_mem p (rot p f n) n (n - 1) with e | ⟨i, hi, e⟩
    · rw [r1, ru 0 (by omega)] at e
      have := gapTo_le p f n (n - 1) 0 (by omega)
      simp at this e; omega
    · by_cases hl : i + 2 = n
      · have e2 : i + 1 = n - 1 := by omega
        rw [e2, r1, ru i (by omega), e2] at e
        omega
      · rw [ru i (by omega), ru (i + 1) (by omega)] at e
        have := gapTo_le p f n (n - 1) (i + 1) (by omega)
        omega
  · rcases gapTo_mem p f n (n - 1) with e | ⟨i, hi, e⟩
    · have := gapTo_le p (rot p f n) n (n - 1) (n - 2) (by omega)
      have e2 : n - 2 + 1 = n - 1 := by omega
      rw [e2, r1, ru (n - 2) (by omega), e2] at this
      omega
    · by_cases h0 : i = 0
      · subst h0; simp at w2 e; omega
      · obtain ⟨k, rfl⟩ : ∃ k, i = k + 1 := ⟨i - 1, by omega⟩
        have := gapTo_le p (rot p f n) n (n - 1) k (by omega)
        rw [ru k (by omega), ru (k + 1) (by omega)] at this
        omega

theorem gap_pos (p : Int) (f : Nat → Int) (n : Nat) (hn : 0 < n) (h0 : 0 ≤ f 0) (hl : f (n - 1) < p) (hs : ∀ i, i + 1 < n → f i < f (i + 1)) : 0 < gapTo p f n (n - 1) := by
  rcases gapTo_mem p f n (n - 1) with e | ⟨i, hi, e⟩
  · omega
  · have := hs i (by omega); omega

theorem gap_mul (p : Int) (f : Nat → Int) (n : Nat) (hn : 0 < n) : gapTo p f n (n - 1) * (n : Int) ≤ p := by
  have hk : ∀ k, k < n → gapTo p f n (n - 1) * (k : Int) ≤ f k - f 0 := by
    intro k
    induction k with
    | zero => intro _; simp
    | succ k ih =>
      intro hk
      have h1 := ih (by omega)
      have h2 := gapTo_le p f n (n - 1) k (by omega)
      rw [Int.natCast_add, Int.mul_add]
      simp
      omega
  have h1 := hk (n - 1) (by omega)
  have h2 := gapTo_wrap p f n (n - 1)
  have e : (n : Int) = ((n - 1 : Nat) : Int) + 1 := by omega
  rw [e, Int.mul_add]
  omega

theorem gap_le_div (p : Int) (f : Nat → Int) (n : Nat) (hn : 0 < n) : gapTo p f n (n - 1) ≤ p / (n : Int) :=
  Int.le_ediv_of_mul_le (by omega) (gap_mul p f n hn)

end Go.Proofs.Qxb6630804a.Plain
