import Derived.Test.Qxb6630764aAdd
namespace Go.Proofs.Qxb6630764a

theorem ltB_iff (a b : Int × Int) : ltB a b = true ↔ a.1 < b.1 ∨ (a.1 = b.1 ∧ a.2 < b.2) := by
  unfold ltB
  split
  · simp; omega
  · simp; omega

theorem ltB_not (a b : Int × Int) : ltB a b = false ↔ b.1 < a.1 ∨ (b.1 = a.1 ∧ b.2 ≤ a.2) := by
  rw [← Bool.not_eq_true, ltB_iff]; omega

/-- Oldest first. -/
def Sorted (l : List (Int × Int)) : Prop := ∀ i, i + 1 < l.length → ltB (l.getD (i + 1) (0, 0)) (l.getD i (0, 0)) = false

theorem sorted_le {l : List (Int × Int)} (h : Sorted l) (i j : Nat) (hij : i ≤ j) (hj : j < l.length) : ltB (l.getD j (0, 0)) (l.getD i (0, 0)) = false := by
  induction j with
  | zero => obtain rfl : i = 0 := by omega
            rw [ltB_not]; omega
  | succ j ih =>
    by_cases e : i = j + 1
    · subst e; rw [ltB_not]; omega
    · have h1 := ih (by omega) (by omega)
      have h2 := h j hj
      rw [ltB_not] at h1 h2 ⊢
      omega

/-- How many of l are not later than now. -/
def cnt (now : Int × Int) (l : List (Int × Int)) : Nat := (l.filter fun x => !ltB now x).length

theorem cnt_le (now : Int × Int) (l : List (Int × Int)) : cnt now l ≤ l.length := List.length_filter_le _ _

theorem cnt_snoc (now : Int × Int) (l : List (Int × Int)) (x : Int × Int) : cnt now (l ++ [x]) = cnt now l + if ltB now x = true then 0 else 1 := by
  unfold cnt
  rw [List.filter_append, List.length_append]
  cases h : ltB now x <;> simp [h]

theorem take_snoc {α : Type} (l : List α) (k : Nat) (d : α) (h : k < l.length) : l.take (k + 1) = l.take k ++ [l.getD k d] := by
  rw [List.take_succ_eq_append_getElem h]
  simp [List.getD, h]

theorem getD_mem_take {α : Type} {l : List α} {j : Nat} {x d : α} (h : x ∈ l.take j) : ∃ t, t < j ∧ t < l.length ∧ x = l.getD t d := by
  obtain ⟨t, ht, rfl⟩ := List.getElem_of_mem h
  rw [List.length_take] at ht
  exact ⟨t, by omega, by omega, by simp [List.getD, show t < l.length by omega]⟩

theorem getD_mem_drop {α : Type} {l : List α} {j : Nat} {x d : α} (h : x ∈ l.drop j) : ∃ t, j ≤ t ∧ t < l.length ∧ x = l.getD t d := by
  obtain ⟨t, ht, rfl⟩ := List.getElem_of_mem h
  rw [List.length_drop] at ht
  exact ⟨j + t, by omega, by omega, by simp [List.getD, show j + t < l.length by omega]⟩

/-- In a sorted log the place of the insertion is the count. -/
theorem ins_cnt {now : Int × Int} {l l' : List (Int × Int)} (hs : Sorted l) (h : Ins now l l') : l' = l.take (cnt now l) ++ now :: l.drop (cnt now l) := by
  obtain ⟨j, hj, hall, hlast, rfl⟩ := h
  have hc : cnt now l = j := by
    have e : l = l.take j ++ l.drop j := (List.take_append_drop j l).symm
    have h1 : (l.take j).filter (fun x => !ltB now x) = l.take j := by
      rw [List.filter_eq_self]
      intro x hx
      obtain ⟨t, ht, htl, rfl⟩ := getD_mem_take (d := ((0, 0) : Int × Int)) hx
      rcases hlast with e0 | e0
      · omega
      · have h2 := sorted_le hs t (j - 1) (by omega) (by omega)
        have h3 : ltB now (l.getD t (0, 0)) = false := by rw [ltB_not] at e0 h2 ⊢; omega
        rw [h3]; rfl
    have h2 : (l.drop j).filter (fun x => !ltB now x) = [] := by
      rw [List.filter_eq_nil_iff]
      intro x hx
      obtain ⟨t, ht, htl, rfl⟩ := getD_mem_drop (d := ((0, 0) : Int × Int)) hx
      rw [hall t ht htl]; decide
    unfold cnt
    rw [e, List.filter_append, h1, h2]
    simp; omega
  rw [hc]

/-! ### The second law: insertions keep the log sorted, and two sorted logs of the same entries are one -/
theorem ins_perm {now : Int × Int} {l l' : List (Int × Int)} (h : Ins now l l') : l'.Perm (now :: l) := by
  obtain ⟨j, hj, _, _, rfl⟩ := h
  have e : l = l.take j ++ l.drop j := (List.take_append_drop j l).symm
  have := (List.perm_middle (a := now) (l₁ := l.take j) (l₂ := l.drop j))
  rwa [List.take_append_drop] at this

/-- Sorted, said by pairs. -/
def SortedP (l : List (Int × Int)) : Prop := l.Pairwise fun a b => ltB b a = false

theorem sortedP_iff (l : List (Int × Int)) : SortedP l ↔ Sorted l := by
  constructor
  · intro h i hi
    have := List.pairwise_iff_getElem.1 h i (i + 1) (by omega) hi (by omega)
    simpa [List.getD, show i < l.length by omega, hi] using this
  · intro h
    refine List.pairwise_iff_getElem.2 fun i j hi hj hij => ?_
    have := sorted_le h i j (by omega) hj
    simpa [List.getD, hi, hj] using this

theorem ins_sorted {now : Int × Int} {l l' : List (Int × Int)} (hs : SortedP l) (h : Ins now l l') : SortedP l' := by
  have hs' := (sortedP_iff l).1 hs
  obtain ⟨j, hj, hall, hlast, rfl⟩ := h
  have hd : SortedP (l.drop j) := List.Pairwise.sublist (List.drop_sublist j l) hs
  have ht : SortedP (l.take j) := List.Pairwise.sublist (List.take_sublist j l) hs
  have htn : ∀ x ∈ l.take j, ltB now x = false := by
    intro x hx
    obtain ⟨t, ht, htl, rfl⟩ := getD_mem_take (d := ((0, 0) : Int × Int)) hx
    rcases hlast with e0 | e0
    · omega
    · have h2 := sorted_le hs' t (j - 1) (by omega) (by omega)
      rw [ltB_not] at e0 h2 ⊢; omega
  have hdn : ∀ x ∈ l.drop j, ltB x now = false := by
    intro x hx
    obtain ⟨t, ht, htl, rfl⟩ := getD_mem_drop (d := ((0, 0) : Int × Int)) hx
    have h1 := hall t ht htl
    rw [ltB_iff] at h1
    rw [ltB_not]; omega
  refine List.pairwise_append.2 ⟨ht, List.pairwise_cons.2 ⟨hdn, hd⟩, fun a ha b hb => ?_⟩
  rcases List.mem_cons.1 hb with rfl | hb
  · exact htn a ha
  · have h1 := htn a ha
    have h2 := hdn b hb
    rw [ltB_not] at h1 h2 ⊢
    omega

theorem ltB_antisymm {a b : Int × Int} (h1 : ltB a b = false) (h2 : ltB b a = false) : a = b := by
  rw [ltB_not] at h1 h2
  exact Prod.ext (by omega) (by omega)

theorem sorted_unique : ∀ {l l' : List (Int × Int)}, SortedP l → SortedP l' → l.Perm l' → l = l'
  | [], l', _, _, hp => (List.nil_perm.1 hp).symm
  | a :: l, l', hs, hs', hp => by
    cases l' with
    | nil => exact absurd hp.length_eq (by simp)
    | cons b l' =>
      obtain ⟨ha, hl⟩ := List.pairwise_cons.1 hs
      obtain ⟨hb, hl'⟩ := List.pairwise_cons.1 hs'
      have hab : a = b := by
        by_cases e : a = b
        · exact e
        · have m1 : a ∈ l' := by
            have := hp.mem_iff.1 (List.mem_cons_self (a := a) (l := l))
            rcases List.mem_cons.1 this with h | h
            · exact absurd h e
            · exact h
          have m2 : b ∈ l := by
            have := hp.mem_iff.2 (List.mem_cons_self (a := b) (l := l'))
            rcases List.mem_cons.1 this with h | h
            · exact absurd h.symm e
            · exact h
          exact ltB_antisymm (hb a m1) (ha b m2)
      subst hab
      rw [sorted_unique hl hl' ((List.perm_cons a).1 hp)]

end Go.Proofs.Qxb6630764a
