import Derived.Test.Qxb6630764aPlain
namespace Go.Proofs.Qxb6630764a

/-- What the merge has done when it stands at (i, j). -/
structure Mg (L R out : List (Int × Int)) (i j : Nat) : Prop where
  perm : out.Perm (L.take i ++ R.take j)
  sorted : SortedP out
  left : ∀ x ∈ out, ∀ y ∈ L.drop i, ltB y x = false
  right : ∀ x ∈ out, ∀ y ∈ R.drop j, ltB y x = false

theorem mg_start (L R : List (Int × Int)) : Mg L R [] 0 0 := ⟨by simp, List.Pairwise.nil, by simp, by simp⟩

theorem mg_len {L R out : List (Int × Int)} {i j : Nat} (h : Mg L R out i j) (hi : i ≤ L.length) (hj : j ≤ R.length) : out.length = i + j := by
  rw [h.perm.length_eq]; simp; omega

theorem drop_cons (l : List (Int × Int)) (i : Nat) (hi : i < l.length) : l.drop i = l.getD i (0, 0) :: l.drop (i + 1) := by
  rw [List.drop_eq_getElem_cons hi]; simp [List.getD, hi]

theorem mg_left {L R out : List (Int × Int)} {i j : Nat} (h : Mg L R out i j) (hL : SortedP L) (hi : i < L.length) (hr : ∀ y ∈ R.drop j, ltB y (L.getD i (0, 0)) = false) : Mg L R (out ++ [L.getD i (0, 0)]) (i + 1) j := by
  have hd := drop_cons L i hi
  have hs : SortedP (L.drop i) := List.Pairwise.sublist (List.drop_sublist i L) hL
  rw [hd] at hs
  have hs1 := (List.pairwise_cons.1 hs).1
  refine ⟨?_, ?_, ?_, ?_⟩
  · rw [take_snoc L i (0, 0) hi, List.append_assoc]
    have h1 : (out ++ [L.getD i (0, 0)]).Perm ((L.take i ++ R.take j) ++ [L.getD i (0, 0)]) := List.Perm.append_right _ h.perm
    refine h1.trans ?_
    rw [List.append_assoc]
    exact List.Perm.append_left _ List.perm_append_comm
  · refine List.pairwise_append.2 ⟨h.sorted, List.pairwise_singleton _ _, fun a ha b hb => ?_⟩
    rw [List.mem_singleton] at hb
    subst hb
    exact h.left a ha _ (by rw [hd]; exact List.mem_cons_self)
  · intro x hx y hy
    rcases List.mem_append.1 hx with hx | hx
    · exact h.left x hx y (by rw [hd]; exact List.mem_cons_of_mem _ hy)
    · rw [List.mem_singleton] at hx; subst hx; exact hs1 y hy
  · intro x hx y hy
    rcases List.mem_append.1 hx with hx | hx
    · exact h.right x hx y hy
    · rw [List.mem_singleton] at hx; subst hx; exact hr y hy

theorem mg_swap {L R out : List (Int × Int)} {i j : Nat} (h : Mg L R out i j) : Mg R L out j i := ⟨h.perm.trans List.perm_append_comm, h.sorted, h.right, h.left⟩

theorem mg_right {L R out : List (Int × Int)} {i j : Nat} (h : Mg L R out i j) (hR : SortedP R) (hj : j < R.length) (hl : ∀ y ∈ L.drop i, ltB y (R.getD j (0, 0)) = false) : Mg L R (out ++ [R.getD j (0, 0)]) i (j + 1) :=
  mg_swap (mg_left (mg_swap h) hR hj hl)

/-- In a sorted list all that follows is no earlier. -/
theorem sorted_drop {l : List (Int × Int)} (h : SortedP l) (i : Nat) : ∀ y ∈ l.drop i, ltB y (l.getD i (0, 0)) = false := by
  intro y hy
  obtain ⟨t, ht, htl, rfl⟩ := getD_mem_drop (d := ((0, 0) : Int × Int)) hy
  exact sorted_le ((sortedP_iff l).1 h) i t ht htl

theorem mg_lt {L R out : List (Int × Int)} {i j : Nat} (h : Mg L R out i j) (hL : SortedP L) (hR : SortedP R) (hj : j < R.length) (hb : ltB (R.getD j (0, 0)) (L.getD i (0, 0)) = true) : Mg L R (out ++ [R.getD j (0, 0)]) i (j + 1) := by
  refine mg_right h hR hj fun y hy => ?_
  have h1 := sorted_drop hL i y hy
  rw [ltB_iff] at hb
  rw [ltB_not] at h1 ⊢
  omega

theorem mg_ge {L R out : List (Int × Int)} {i j : Nat} (h : Mg L R out i j) (hL : SortedP L) (hR : SortedP R) (hi : i < L.length) (hb : ltB (R.getD j (0, 0)) (L.getD i (0, 0)) = false) : Mg L R (out ++ [L.getD i (0, 0)]) (i + 1) j := by
  refine mg_left h hL hi fun y hy => ?_
  have h1 := sorted_drop hR j y hy
  rw [ltB_not] at hb h1 ⊢
  omega

theorem mg_done {L R out : List (Int × Int)} {i j : Nat} (h : Mg L R out i j) (hi : L.length ≤ i) (hj : R.length ≤ j) : out.Perm (L ++ R) := by
  have := h.perm
  rwa [List.take_of_length_le hi, List.take_of_length_le hj] at this
end Go.Proofs.Qxb6630764a
