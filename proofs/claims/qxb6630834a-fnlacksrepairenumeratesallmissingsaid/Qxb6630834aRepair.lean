import Derived.Test.Qxb6630834aPlain
namespace Go.Proofs.Qxb6630834a

/-- Is place i of o the first of its value, and is that value missing? -/
def newB (a : Nat → List UInt8) (n : Nat) (o : Nat → List UInt8) (i : Nat) : Bool := (decide (i = 0) || !(o (i - 1) == o i)) && missB a n (o i)

/-- How many such places are there among the first k? -/
def cnt (a : Nat → List UInt8) (n : Nat) (o : Nat → List UInt8) : Nat → Nat
  | 0 => 0
  | k + 1 => cnt a n o k + (if newB a n o k then 1 else 0)

theorem cnt_le (a : Nat → List UInt8) (n : Nat) (o : Nat → List UInt8) (k : Nat) : cnt a n o k ≤ k := by
  induction k with
  | zero => exact Nat.le_refl _
  | succ k ih => simp only [cnt]; split <;> omega

theorem cnt_flat (a : Nat → List UInt8) (n : Nat) (o : Nat → List UInt8) (p i : Nat) (hp : p ≤ i) (h : ∀ j, p ≤ j → j < i → newB a n o j = false) : cnt a n o i = cnt a n o p := by
  induction i with
  | zero => obtain rfl : p = 0 := by omega
            rfl
  | succ i ih =>
    by_cases e : p = i + 1
    · rw [e]
    · simp only [cnt]
      rw [h i (by omega) (by omega), ih (by omega) (fun j h1 h2 => h j h1 (by omega))]
      simp

theorem missB_empty (a : Nat → List UInt8) (v : List UInt8) : missB a 0 v = false := by simp [missB]

theorem cnt_empty (a : Nat → List UInt8) (o : Nat → List UInt8) (k : Nat) : cnt a 0 o k = 0 := by
  induction k with
  | zero => rfl
  | succ k ih => simp [cnt, ih, newB, missB_empty]

/-- d put in at place pos. -/
def insK (c : Nat → List UInt8) (pos : Nat) (d : List UInt8) (i : Nat) : List UInt8 := if i < pos then c i else if i = pos then d else c (i - 1)

theorem insK_has (c : Nat → List UInt8) (N pos : Nat) (d v : List UInt8) (hp : pos ≤ N) : hasB (insK c pos d) (N + 1) v = true ↔ (hasB c N v = true ∨ v = d) := by
  rw [hasB_iff, hasB_iff]
  constructor
  · rintro ⟨i, hi, rfl⟩
    by_cases h1 : i < pos
    · exact .inl ⟨i, by omega, by simp [insK, h1]⟩
    · by_cases h2 : i = pos
      · exact .inr (by simp [insK, h2])
      · exact .inl ⟨i - 1, by omega, by simp [insK, h1, h2]⟩
  · rintro (⟨i, hi, rfl⟩ | rfl)
    · by_cases h1 : i < pos
      · exact ⟨i, by omega, by simp [insK, h1]⟩
      · exact ⟨i + 1, by omega, by simp [insK, show ¬ i + 1 < pos by omega, show ¬ i + 1 = pos by omega]⟩
    · exact ⟨pos, by omega, by simp [insK]⟩

theorem insK_asc (c : Nat → List UInt8) (N pos : Nat) (d : List UInt8) (hc : Asc c N) (hp : pos ≤ N) (h1 : ∀ j, j < pos → lt d (c j) = false) (h2 : pos < N → lt d (c pos) = true) : Asc (insK c pos d) (N + 1) := by
  intro i hi
  by_cases e1 : i + 1 < pos
  · simp only [insK, if_pos e1, if_pos (show i < pos by omega)]; exact hc i (by omega)
  · by_cases e2 : i + 1 = pos
    · have : i < pos := by omega
      simp only [insK, if_neg e1, if_pos e2, if_pos this]; exact h1 i this
    · by_cases e3 : i = pos
      · subst e3
        have e4 : ¬ i + 1 = i := by omega
        simp only [insK, if_neg e1, if_neg e4, Nat.lt_irrefl, if_false, if_true, Nat.add_sub_cancel]
        exact lt_asymm (h2 (by omega))
      · have e4 : ¬ i < pos := by omega
        simp only [insK, if_neg e1, if_neg e2, if_neg e3, if_neg e4, Nat.add_sub_cancel]
        have := hc (i - 1) (by omega)
        rwa [show i - 1 + 1 = i by omega] at this

/-- WHAT STANDS AT THE HEAD OF EACH ROUND: c (N of them) is s (n of them) with all that was missing among o's first p; k were found. -/
structure Inv (s : Nat → List UInt8) (n : Nat) (o : Nat → List UInt8) (m : Nat) (c : Nat → List UInt8) (N p k : Nat) : Prop where
  pm : p ≤ m
  kc : cnt s n o p = k
  nn : N = n + k
  asc : Asc c N
  ends : 0 < n → c 0 = s 0 ∧ c (N - 1) = s (n - 1)
  mem : ∀ v, hasB c N v = true ↔ (hasB s n v = true ∨ ∃ i, i < p ∧ missB s n (o i) = true ∧ o i = v)
  last : 0 < k → 0 < p ∧ missB s n (o (p - 1)) = true

section
variable {s o c : Nat → List UInt8} {n m N p k : Nat}

theorem inv_start (hs : Asc s n) : Inv s n o m s n 0 0 :=
  ⟨Nat.zero_le _, rfl, rfl, hs, fun _ => ⟨rfl, rfl⟩, fun _ => ⟨.inl, fun h => h.elim id (fun ⟨_, hi, _⟩ => absurd hi (Nat.not_lt_zero _))⟩, fun h => absurd h (Nat.lt_irrefl _)⟩

theorem Inv.kle (h : Inv s n o m c N p k) : k ≤ m := by have := cnt_le s n o p; have := h.kc; have := h.pm; omega

theorem Inv.npos (h : Inv s n o m c N p k) (hN : 0 < N) : 0 < n := by
  refine Nat.pos_of_ne_zero fun e => ?_
  subst e
  have h1 := h.kc
  rw [cnt_empty] at h1
  have := h.nn
  omega

theorem Inv.down (h : Inv s n o m c N p k) {v : List UInt8} (hv : missB c N v = true) : missB s n v = true := by
  rw [missB_iff] at hv ⊢
  have hn := h.npos hv.1
  obtain ⟨e1, e2⟩ := h.ends hn
  rw [e1, e2] at hv
  refine ⟨hn, hv.2.1, hv.2.2.1, ?_⟩
  cases hh : hasB s n v
  · rfl
  · have := (h.mem v).2 (.inl hh); rw [hv.2.2.2] at this; cases this

theorem Inv.up (h : Inv s n o m c N p k) {v : List UInt8} (hv : missB s n v = true) (hc : hasB c N v = false) : missB c N v = true := by
  rw [missB_iff] at hv ⊢
  obtain ⟨e1, e2⟩ := h.ends hv.1
  rw [e1, e2]
  exact ⟨by have := h.nn; omega, hv.2.1, hv.2.2.1, hc⟩

/-- Behind p, a place whose value c does not lack is no new one. -/
theorem Inv.old (h : Inv s n o m c N p k) (ho : Asc o m) {j : Nat} (h1 : p ≤ j) (h2 : j < m) (hj : missB c N (o j) = false) : newB s n o j = false := by
  cases hm : missB s n (o j)
  · simp [newB, hm]
  · have hc : hasB c N (o j) = true := by
      cases hc : hasB c N (o j)
      · rw [h.up hm hc] at hj; cases hj
      · rfl
    rcases (h.mem _).1 hc with hs | ⟨i, hi, _, e⟩
    · rw [missB_iff] at hm; rw [hm.2.2.2] at hs; cases hs
    · have a1 := asc_le ho i (j - 1) (by omega) (by omega)
      have a2 := asc_le ho (j - 1) j (by omega) h2
      rw [e] at a1
      have a3 := lt_total a2 a1
      have : ¬ j = 0 := by omega
      simp [newB, this, a3]

theorem Inv.done (h : Inv s n o m c N p k) (ho : Asc o m) (hf : IsFirst c N o m none) : cnt s n o m = k := by
  rw [cnt_flat s n o p m h.pm (fun j h1 h2 => h.old ho h1 h2 (hf j h2)), h.kc]

variable {i : Nat}

theorem Inv.found (h : Inv s n o m c N p k) (ho : Asc o m) (hf : IsFirst c N o m (some i)) : i < m ∧ p ≤ i ∧ missB s n (o i) = true ∧ cnt s n o (i + 1) = k + 1 ∧ (0 < k → lt (o (p - 1)) (o i) = true) := by
  obtain ⟨him, hm, hb⟩ := hf
  have hms := h.down hm
  have hhc : hasB c N (o i) = false := ((missB_iff _ _ _).1 hm).2.2.2
  have hpi : p ≤ i := by
    refine Nat.le_of_not_lt fun q => ?_
    have := (h.mem (o i)).2 (.inr ⟨i, q, hms, rfl⟩)
    rw [hhc] at this; cases this
  refine ⟨him, hpi, hms, ?_, fun hk => ?_⟩
  · have e1 : cnt s n o i = k := by rw [cnt_flat s n o p i hpi (fun j h1 h2 => h.old ho h1 (by omega) (hb j h2)), h.kc]
    have e2 : newB s n o i = true := by
      by_cases e : i = 0
      · subst e; simp [newB, hms]
      · have : ¬ o (i - 1) = o i := fun q => by
          have := hb (i - 1) (by omega)
          rw [q, hm] at this; cases this
        simp [newB, hms, this]
    simp [cnt, e1, e2]
  · obtain ⟨hp, hl⟩ := h.last hk
    have hc := (h.mem (o (p - 1))).2 (.inr ⟨p - 1, by omega, hl, rfl⟩)
    refine lt_of_le_ne (asc_le ho (p - 1) i (by omega) him) fun q => ?_
    rw [q, hhc] at hc; cases hc

theorem Inv.next (h : Inv s n o m c N p k) (ho : Asc o m) (hf : IsFirst c N o m (some i)) {pos : Nat} (hp : pos ≤ N) (h1 : ∀ j, j < pos → lt (o i) (c j) = false) (h2 : pos < N → lt (o i) (c pos) = true) :
    Inv s n o m (insK c pos (o i)) (N + 1) (i + 1) (k + 1) := by
  obtain ⟨him, hpi, hms, hcn, _⟩ := h.found ho hf
  obtain ⟨_, hm, hb⟩ := hf
  obtain ⟨hN, g1, g2, g3⟩ := (missB_iff _ _ _).1 hm
  have hpos0 : 0 < pos := by
    refine Nat.pos_of_ne_zero fun e => ?_
    subst e
    rw [h2 hN] at g1; cases g1
  have hposN : pos < N := by
    refine Nat.lt_of_le_of_ne hp fun e => ?_
    have := h1 (N - 1) (by omega)
    have e3 := lt_total g2 this
    have : hasB c N (o i) = true := (hasB_iff _ _ _).2 ⟨N - 1, by omega, e3⟩
    rw [g3] at this; cases this
  refine ⟨by omega, hcn, by have := h.nn; omega, insK_asc c N pos (o i) h.asc hp h1 h2, fun hn => ?_, fun v => ?_, fun _ => ⟨by omega, by simpa using hms⟩⟩
  · obtain ⟨e1, e2⟩ := h.ends hn
    constructor
    · simp [insK, hpos0, e1]
    · rw [← e2]
      simp only [Nat.add_sub_cancel, insK, if_neg (show ¬ N < pos by omega), if_neg (show ¬ N = pos by omega)]
  · rw [insK_has c N pos (o i) v hp, h.mem v]
    constructor
    · rintro ((hs | ⟨j, hj, hjm, e⟩) | rfl)
      · exact .inl hs
      · exact .inr ⟨j, by omega, hjm, e⟩
      · exact .inr ⟨i, by omega, hms, rfl⟩
    · rintro (hs | ⟨j, hj, hjm, e⟩)
      · exact .inl (.inl hs)
      · by_cases e2 : j = i
        · subst e2; exact .inr e.symm
        · by_cases e3 : j < p
          · exact .inl (.inr ⟨j, e3, hjm, e⟩)
          · left
            have hj2 := hb j (by omega)
            have hc : hasB c N (o j) = true := by
              cases hc : hasB c N (o j)
              · rw [h.up hjm hc] at hj2; cases hj2
              · rfl
            rw [e] at hc
            exact (h.mem v).1 hc
end

end Go.Proofs.Qxb6630834a
