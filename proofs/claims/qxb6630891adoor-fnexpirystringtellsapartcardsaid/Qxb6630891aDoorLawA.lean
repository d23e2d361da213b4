import Derived.Test.Qxb6630891aDoorParse
namespace Go.Proofs.Qxb6630891aDoor
open Go.RowKit Go.Sort

theorem bytes_size (l : List UInt8) : (ByteArray.mk l.toArray).size = l.length := by simp [ByteArray.size]

theorem bytes_get (l : List UInt8) (i : Nat) (h : i < (ByteArray.mk l.toArray).size) (b : UInt8) (hb : l[i]? = some b) : ((ByteArray.mk l.toArray)[i]'h) = b := by
  have : (ByteArray.mk l.toArray)[i]'h = l[i]'(by rw [bytes_size] at h; exact h) := rfl
  rw [this]
  exact (List.getElem?_eq_some_iff.1 hb).2

theorem bytes_extract (l r : List UInt8) (k : Nat) (hk : l.length = k) : (ByteArray.mk (l ++ r).toArray).extract k (k + r.length) = ⟨r.toArray⟩ := by
  subst hk
  apply ByteArray.ext
  simp [ByteArray.data_extract]

theorem unit_is (h one : Bool) : IsUnit ⟨(unitOf h one).toArray⟩ h (!one) := by
  cases h <;> cases one
  · exact .inr (.inl ⟨rfl, rfl, rfl⟩)
  · exact .inl ⟨rfl, rfl, rfl⟩
  · exact .inr (.inr (.inr ⟨rfl, rfl, rfl⟩))
  · exact .inr (.inr (.inl ⟨rfl, rfl, rfl⟩))

theorem unit_len (h one : Bool) : (unitOf h one).length ≤ 10 := by cases h <;> cases one <;> decide

/-- THE PARSER READS BACK WHAT String WRITES. -/
theorem parse_text (n : Int) (h : Bool) (w : World) (h0 : -9223372036854775808 ≤ n) (h1 : n ≤ 9223372036854775807) :
    Calls Tryd.prog 6 #[.string ⟨(textOf n h).toArray⟩] w fun e w' => e = .returned (.tuple #[.int .i64 n, .bool h, .bool (n != 1), .bool true]) ∧ w' = w := by
  have hne : (n != 1) = !(n == 1) := rfl
  rw [hne]
  have hU := unit_is h (n == 1)
  have hUL := unit_len h (n == 1)
  unfold textOf
  generalize unitOf h (n == 1) = r at *
  generalize (n == 1) = one at *
  by_cases hn : n < 0
  · obtain ⟨u, rfl⟩ : ∃ u : Nat, n = -(u : Int) := ⟨n.natAbs, by omega⟩
    rw [Lib.itoa_neg u (by omega)]
    have hl : (Lib.decDigits u).length = Lib.nDigits u := Lib.decDigits_length u
    refine parse_neg u _ ⟨r.toArray⟩ h (!one) r.length w hU (by omega) (by omega) (by rw [bytes_size]; simp [hl]; omega) hUL ?_ ?_ ?_ ?_
    · intro hh
      rw [bytes_get _ _ hh 45 rfl]; rfl
    · intro k hk hh
      obtain ⟨b, hb, e⟩ := dec_get u k hk
      rw [bytes_get _ _ hh b (by rw [Nat.add_comm, List.cons_append, List.getElem?_cons_succ, List.getElem?_append_left (by omega)]; exact hb), e]
    · intro hh
      rw [bytes_get _ _ hh 32 (by rw [Nat.add_comm, List.cons_append, List.getElem?_cons_succ, List.getElem?_append_right (by omega), hl]; simp)]; rfl
    · have := bytes_extract ((45 :: Lib.decDigits u) ++ [32]) r (1 + Lib.nDigits u + 1) (by simp [hl]; omega)
      simpa using this
  · obtain ⟨u, rfl⟩ : ∃ u : Nat, n = (u : Int) := ⟨n.natAbs, by omega⟩
    rw [Lib.itoa_nonneg u]
    have hl : (Lib.decDigits u).length = Lib.nDigits u := Lib.decDigits_length u
    refine parse_pos u _ ⟨r.toArray⟩ h (!one) r.length w hU (by omega) (by rw [bytes_size]; simp [hl]; omega) hUL ?_ ?_ ?_
    · intro k hk hh
      obtain ⟨b, hb, e⟩ := dec_get u k hk
      rw [bytes_get _ _ hh b (by rw [List.getElem?_append_left (by omega)]; exact hb), e]
    · intro hh
      rw [bytes_get _ _ hh 32 (by rw [List.getElem?_append_right (by omega), hl]; simp)]; rfl
    · have := bytes_extract (Lib.decDigits u ++ [32]) r (Lib.nDigits u + 1) (by simp [hl])
      simpa using this

set_option maxRecDepth 100000 in
set_option maxHeartbeats 1000000 in
theorem law1_any (n : Int) (h : Bool) (w : World) (h0 : -9223372036854775808 ≤ n) (h1 : n ≤ 9223372036854775807) (ht : Tab w) :
    Calls Tryd.prog 3 #[.int .i64 n, .bool h] w fun e w' => e = .returned (.bool true) ∧ Below w.heap.size w w' := by
  have HB := hide (show Below w.heap.size w (w.alloc (.cells #[.int .i64 n, .bool h] 23)) from (Below.refl w.heap.size w).alloc (Nat.le_refl _) _)
  have HT := hide (tab_below ht HB.out)
  clear ht
  go_enter Tryd.func3, Tryd.ntmps3
  go_wp2_with fail
  refine (string_any n h _ h0 h1 HT.out).mono ?_
  rintro e w1 ⟨rfl, hb1⟩
  have HB1 := hide (HB.out.trans (hb1.mono HB.out.size))
  clear hb1
  go_wp2_with fail
  refine (parse_text n h _ h0 h1).mono ?_
  rintro e w2 ⟨rfl, hw⟩
  obtain rfl := hw.symm
  go_wp2
  go_ret
  exact ⟨by simp, HB1.out⟩

end Go.Proofs.Qxb6630891aDoor
