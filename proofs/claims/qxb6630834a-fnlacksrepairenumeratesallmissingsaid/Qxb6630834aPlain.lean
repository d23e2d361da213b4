import GoSem.Op.String
namespace Go.Proofs.Qxb6630834a

/-- Go's '<' on strings, on the lists of their bytes. -/
def lt (x y : List UInt8) : Bool := Op.bytesLess x y

theorem lt_irrefl : ∀ x : List UInt8, lt x x = false
  | [] => rfl
  | a :: x => by
    have ih := lt_irrefl x
    unfold lt at *
    simp [Op.bytesLess, ih]

theorem lt_trans : ∀ {x y z : List UInt8}, lt x y = true → lt y z = true → lt x z = true
  | x, y, [], _, h => by cases y <;> simp [lt, Op.bytesLess] at h
  | x, [], _ :: _, h, _ => by cases x <;> simp [lt, Op.bytesLess] at h
  | [], _ :: _, _ :: _, _, _ => rfl
  | a :: x, b :: y, c :: z, h, k => by
    have ih := @lt_trans x y z
    unfold lt at *
    simp only [Op.bytesLess, Bool.or_eq_true, Bool.and_eq_true, decide_eq_true_eq, beq_iff_eq] at h k ⊢
    rcases h with h | ⟨rfl, h⟩
    · rcases k with k | ⟨rfl, k⟩
      · exact .inl (UInt8.lt_trans h k)
      · exact .inl h
    · rcases k with k | ⟨rfl, k⟩
      · exact .inl k
      · exact .inr ⟨rfl, ih h k⟩

theorem lt_total : ∀ {x y : List UInt8}, lt x y = false → lt y x = false → x = y
  | [], [], _, _ => rfl
  | [], _ :: _, h, _ => by simp [lt, Op.bytesLess] at h
  | _ :: _, [], _, h => by simp [lt, Op.bytesLess] at h
  | a :: x, b :: y, h, k => by
    have ih := @lt_total x y
    unfold lt at *
    simp only [Op.bytesLess, Bool.or_eq_false_iff, Bool.and_eq_false_iff, decide_eq_false_iff_not, beq_eq_false_iff_ne] at h k
    have hab : a = b := by
      apply UInt8.le_antisymm
      · exact UInt8.not_lt.1 k.1
      · exact UInt8.not_lt.1 h.1
    subst hab
    rw [ih (by simpa using h.2) (by simpa using k.2)]

theorem lt_asymm {x y : List UInt8} (h : lt x y = true) : lt y x = false := by
  cases k : lt y x
  · rfl
  · have := lt_trans h k; rw [lt_irrefl] at this; cases this

/-- x ≤ y ≤ z. -/
theorem le_trans {x y z : List UInt8} (h : lt y x = false) (k : lt z y = false) : lt z x = false := by
  cases e : lt z x
  · rfl
  · cases f : lt x y
    · have := lt_total h f; subst this; rw [e] at k; cases k
    · have := lt_trans e f; rw [this] at k; cases k

/-- x < y ≤ z. -/
theorem lt_of_lt_of_le {x y z : List UInt8} (h : lt x y = true) (k : lt z y = false) : lt x z = true := by
  cases f : lt y z
  · have := lt_total f k; subst this; exact h
  · exact lt_trans h f

/-- x ≤ y < z. -/
theorem lt_of_le_of_lt {x y z : List UInt8} (h : lt y x = false) (k : lt y z = true) : lt x z = true := by
  cases f : lt x y
  · have := lt_total f h; subst this; exact k
  · exact lt_trans f k

/-- x ≤ y, not equal. -/
theorem lt_of_le_ne {x y : List UInt8} (h : lt y x = false) (hn : x ≠ y) : lt x y = true := by
  cases f : lt x y
  · exact absurd (lt_total f h) hn
  · rfl

/-- Go's '<=' as the text has it. -/
theorem leq_eq (x y : List UInt8) : (lt x y || x == y) = !lt y x := by
  cases h : lt y x
  · cases k : lt x y
    · have := lt_total h k; simp [this]
    · simp
  · have := lt_asymm h
    have hne : x ≠ y := fun e => by rw [e, lt_irrefl] at h; cases h
    simp [this, hne]

/-- Go's '>' as the text has it. -/
theorem gtr_eq (x y : List UInt8) : (!(lt x y || x == y)) = lt y x := by rw [leq_eq]; simp

/-! ### Sorted rows of strings -/
def Asc (a : Nat → List UInt8) (n : Nat) : Prop := ∀ i, i + 1 < n → lt (a (i + 1)) (a i) = false

theorem asc_le {a : Nat → List UInt8} {n : Nat} (h : Asc a n) (i j : Nat) (hij : i ≤ j) (hj : j < n) : lt (a j) (a i) = false := by
  induction j with
  | zero => obtain rfl : i = 0 := by omega
            exact lt_irrefl _
  | succ j ih =>
    by_cases e : i = j + 1
    · subst e; exact lt_irrefl _
    · exact le_trans (ih (by omega) (by omega)) (h j hj)

/-- Is v among the first n? -/
def hasB (a : Nat → List UInt8) (n : Nat) (v : List UInt8) : Bool := (List.range n).any fun i => a i == v

theorem hasB_iff (a : Nat → List UInt8) (n : Nat) (v : List UInt8) : hasB a n v = true ↔ ∃ i, i < n ∧ a i = v := by
  simp [hasB]

theorem hasB_succ (a : Nat → List UInt8) (n : Nat) (v : List UInt8) : hasB a (n + 1) v = (hasB a n v || a n == v) := by
  simp [hasB, List.range_succ]

/-- Does v lie in the span of the row, and is it none of it? -/
def missB (a : Nat → List UInt8) (n : Nat) (v : List UInt8) : Bool := decide (0 < n) && (!lt v (a 0) && (!lt (a (n - 1)) v && !hasB a n v))

theorem missB_iff (a : Nat → List UInt8) (n : Nat) (v : List UInt8) : missB a n v = true ↔ 0 < n ∧ lt v (a 0) = false ∧ lt (a (n - 1)) v = false ∧ hasB a n v = false := by
  simp [missB]

/-- The first of the m values of o that is missing. -/
def IsFirst (a : Nat → List UInt8) (n : Nat) (o : Nat → List UInt8) (m : Nat) : Option Nat → Prop
  | none => ∀ i, i < m → missB a n (o i) = false
  | some i => i < m ∧ missB a n (o i) = true ∧ ∀ j, j < i → missB a n (o j) = false

theorem isFirst_unique {a : Nat → List UInt8} {n : Nat} {o : Nat → List UInt8} {m : Nat} {r r' : Option Nat} (h : IsFirst a n o m r) (h' : IsFirst a n o m r') : r = r' := by
  cases r with
  | none =>
    cases r' with
    | none => rfl
    | some i => have := h i h'.1; rw [h'.2.1] at this; cases this
  | some i =>
    cases r' with
    | none => have := h' i h.1; rw [h.2.1] at this; cases this
    | some i' =>
      by_cases e : i < i'
      · have := h'.2.2 i e; rw [h.2.1] at this; cases this
      · by_cases e2 : i' < i
        · have := h.2.2 i' e2; rw [h'.2.1] at this; cases this
        · have : i = i' := by omega
          rw [this]

/-- What a search leaves: the first place whose value is not less than t. -/
def IsPos (a : Nat → List UInt8) (n : Nat) (t : List UInt8) (p : Nat) : Prop := p ≤ n ∧ (∀ i, i < p → lt (a i) t = true) ∧ ∀ i, p ≤ i → i < n → lt (a i) t = false

/-- At that place, or nowhere. -/
theorem pos_has {a : Nat → List UInt8} {n : Nat} {t : List UInt8} {p : Nat} (ha : Asc a n) (h : IsPos a n t p) : hasB a n t = (decide (p < n) && a p == t) := by
  rw [Bool.eq_iff_iff, hasB_iff]
  simp only [Bool.and_eq_true, decide_eq_true_eq, beq_iff_eq]
  constructor
  · rintro ⟨i, hi, rfl⟩
    have hpi : p ≤ i := by
      refine Nat.le_of_not_lt fun q => ?_
      have := h.2.1 i q; rw [lt_irrefl] at this; cases this
    exact ⟨by omega, lt_total (h.2.2 p (Nat.le_refl _) (by omega)) (asc_le ha p i hpi hi)⟩
  · rintro ⟨h1, h2⟩; exact ⟨p, h1, h2⟩

/-- One step of the search: the upper half. -/
theorem pos_up {a : Nat → List UInt8} {n : Nat} {t : List UInt8} (ha : Asc a n) {h : Nat} (hh : h < n) (hl : lt (a h) t = true) : ∀ i, i < h + 1 → lt (a i) t = true := by
  intro i hi
  exact lt_of_le_of_lt (asc_le ha i h (by omega) hh) hl

theorem pos_down {a : Nat → List UInt8} {n : Nat} {t : List UInt8} (ha : Asc a n) {h : Nat} (hl : lt (a h) t = false) : ∀ i, h ≤ i → i < n → lt (a i) t = false := by
  intro i h1 h2
  exact le_trans hl (asc_le ha h i h1 h2)

/-! ### Lacks: the road of the text finds the first one -/
/-- What the loop of 'Lacks' knows when it stands at place k of other. -/
def LackTo (a : Nat → List UInt8) (n : Nat) (o : Nat → List UInt8) (k : Nat) : Prop := ∀ j, j < k → missB a n (o j) = false

theorem lack_start {a : Nat → List UInt8} {n : Nat} {o : Nat → List UInt8} {m p : Nat} (h : IsPos o m (a 0) p) : LackTo a n o p := by
  intro j hj
  have := h.2.1 j hj
  simp [missB, this]

theorem lack_stop {a : Nat → List UInt8} {n : Nat} {o : Nat → List UInt8} {m k : Nat} (ho : Asc o m) (h : LackTo a n o k) (hg : lt (a (n - 1)) (o k) = true) : IsFirst a n o m none := by
  intro j hj
  by_cases e : j < k
  · exact h j e
  · have := lt_of_lt_of_le hg (asc_le ho k j (by omega) hj)
    simp [missB, this]

theorem lack_found {a : Nat → List UInt8} {n : Nat} {o : Nat → List UInt8} {m p k : Nat} (hn : 0 < n) (hp : IsPos o m (a 0) p) (hk : p ≤ k) (hkm : k < m) (h : LackTo a n o k) (hg : lt (a (n - 1)) (o k) = false) (hh : hasB a n (o k) = false) : IsFirst a n o m (some k) := by
  refine ⟨hkm, ?_, h⟩
  rw [missB_iff]
  exact ⟨hn, hp.2.2 k hk hkm, hg, hh⟩

theorem lack_next {a : Nat → List UInt8} {n : Nat} {o : Nat → List UInt8} {k : Nat} (h : LackTo a n o k) (hm : missB a n (o k) = false) : LackTo a n o (k + 1) := by
  intro j hj
  by_cases e : j = k
  · subst e; exact hm
  · exact h j (by omega)

end Go.Proofs.Qxb6630834a
