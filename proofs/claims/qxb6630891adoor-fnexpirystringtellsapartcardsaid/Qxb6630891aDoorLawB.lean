import Derived.Test.Qxb6630891aDoorLawA
namespace Go.Proofs.Qxb6630891aDoor
open Go.RowKit Go.Sort

/-- No byte of a numeral is a space. -/
theorem dec_no_space (u : Nat) : (32 : UInt8) ∉ Lib.decDigits u := by
  intro h
  obtain ⟨k, hk⟩ := List.getElem?_of_mem h
  have hlt := (List.getElem?_eq_some_iff.1 hk).1
  rw [Lib.decDigits_length] at hlt
  obtain ⟨b, hb, e⟩ := dec_get u k hlt
  rw [hk] at hb
  cases hb
  have : (32 : UInt8).toNat = 32 := rfl
  omega

theorem dec_no_minus (u : Nat) : (45 : UInt8) ∉ Lib.decDigits u := by
  intro h
  obtain ⟨k, hk⟩ := List.getElem?_of_mem h
  have hlt := (List.getElem?_eq_some_iff.1 hk).1
  rw [Lib.decDigits_length] at hlt
  obtain ⟨b, hb, e⟩ := dec_get u k hlt
  rw [hk] at hb
  cases hb
  have : (45 : UInt8).toNat = 45 := rfl
  omega

theorem dec_inj {u v : Nat} (h : Lib.decDigits u = Lib.decDigits v) : u = v := by
  have hl : Lib.nDigits u = Lib.nDigits v := by rw [← Lib.decDigits_length, ← Lib.decDigits_length, h]
  have hk : ∀ k, k ≤ Lib.nDigits u → magAt u k = magAt v k := by
    intro k
    induction k with
    | zero => intro _; rw [magAt_zero, magAt_zero]
    | succ k ih =>
      intro hk
      obtain ⟨b, hb, e⟩ := dec_get u k (by omega)
      obtain ⟨b', hb', e'⟩ := dec_get v k (by omega)
      rw [h, hb'] at hb
      cases hb
      rw [magAt_step u k (by omega), magAt_step v k (by omega), ih (by omega)]
      omega
  have := hk _ (Nat.le_refl _)
  rw [magAt_full, hl, magAt_full] at this
  exact this

theorem itoa_no_space (n : Int) : (32 : UInt8) ∉ Lib.itoa n := by
  unfold Lib.itoa
  split
  · simp only [List.mem_cons, not_or]
    exact ⟨by decide, dec_no_space _⟩
  · exact dec_no_space _

theorem itoa_inj {n m : Int} (h : Lib.itoa n = Lib.itoa m) : n = m := by
  unfold Lib.itoa at h
  split at h <;> split at h
  · have := dec_inj (List.cons.inj h).2; omega
  · exact absurd (h ▸ List.mem_cons_self) (dec_no_minus _)
  · exact absurd (h.symm ▸ List.mem_cons_self) (dec_no_minus _)
  · have := dec_inj h; omega

/-- Two lists without a space, each before a space: the cut is one. -/
theorem cut_inj : ∀ {a b r t : List UInt8}, (32 : UInt8) ∉ a → (32 : UInt8) ∉ b → a ++ 32 :: r = b ++ 32 :: t → a = b ∧ r = t
  | [], [], _, _, _, _, h => ⟨rfl, (List.cons.inj h).2⟩
  | [], y :: b, _, _, _, hb, h => absurd (by rw [show y = 32 from (List.cons.inj h).1.symm]; exact List.mem_cons_self) hb
  | x :: a, [], _, _, ha, _, h => absurd (by rw [show x = 32 from (List.cons.inj h).1]; exact List.mem_cons_self) ha
  | x :: a, y :: b, _, _, ha, hb, h => by
    obtain ⟨e1, e2⟩ := List.cons.inj h
    have := cut_inj (fun q => ha (List.mem_cons_of_mem _ q)) (fun q => hb (List.mem_cons_of_mem _ q)) e2
    exact ⟨by rw [e1, this.1], this.2⟩

theorem unit_inj {h h' one one' : Bool} (e : unitOf h one = unitOf h' one') : h = h' := by
  cases h <;> cases h' <;> cases one <;> cases one' <;> first | rfl | (exact absurd e (by decide))

theorem text_inj {n m : Int} {h h' : Bool} (e : textOf n h = textOf m h') : n = m ∧ h = h' := by
  obtain ⟨e1, e2⟩ := cut_inj (itoa_no_space n) (itoa_no_space m) e
  exact ⟨itoa_inj e1, unit_inj e2⟩

theorem text_eq (n m : Int) (h h' : Bool) : (textOf n h == textOf m h') = (n == m && h == h') := by
  rw [Bool.eq_iff_iff]
  simp only [beq_iff_eq, Bool.and_eq_true]
  constructor
  · exact text_inj
  · rintro ⟨rfl, rfl⟩; rfl

theorem text_len (n : Int) (h : Bool) (h0 : -9223372036854775808 ≤ n) (h1 : n ≤ 9223372036854775807) : (textOf n h).length ≤ 40 := by
  have := Lib.itoa_length_le n h0 h1
  have := unit_len h (n == 1)
  simp only [textOf, List.length_append, List.length_cons]
  omega

set_option maxRecDepth 100000 in
set_option maxHeartbeats 1000000 in
theorem law2_any (n : Int) (h : Bool) (m : Int) (k : Bool) (w : World) (n0 : -9223372036854775808 ≤ n) (n1 : n ≤ 9223372036854775807) (m0 : -9223372036854775808 ≤ m) (m1 : m ≤ 9223372036854775807) (ht : Tab w) :
    Calls Tryd.prog 4 #[.int .i64 n, .bool h, .int .i64 m, .bool k] w fun e w' => e = .returned (.bool true) ∧ Below w.heap.size w w' := by
  have HB := hide (show Below w.heap.size w ((w.alloc (.cells #[.int .i64 n, .bool h] 23)).alloc (.cells #[.int .i64 m, .bool k] 23)) from ((Below.refl w.heap.size w).alloc (Nat.le_refl _) _).alloc (by simp) _)
  have HT := hide (tab_below ht HB.out)
  clear ht
  go_enter Tryd.func4, Tryd.ntmps4
  go_wp2_with fail
  refine (string_any n h _ n0 n1 HT.out).mono ?_
  rintro e w1 ⟨rfl, hb1⟩
  have c1 : w1.cell? ⟨w.heap.size + 1, 0, none⟩ = some (.int .i64 m) := by
    rw [hb1.cell (p := ⟨w.heap.size + 1, 0, none⟩) (by simp)]
    simp
  have c2 : w1.cell? ⟨w.heap.size + 1, 1, none⟩ = some (.bool k) := by
    rw [hb1.cell (p := ⟨w.heap.size + 1, 1, none⟩) (by simp)]
    simp
  have HT1 := hide (tab_below HT.out hb1)
  have HB1 := hide (HB.out.trans (hb1.mono HB.out.size))
  clear hb1
  go_wp2_with fail
  refine (string_any m k _ m0 m1 HT1.out).mono ?_
  rintro e w2 ⟨rfl, hb2⟩
  have HB2 := hide (HB1.out.trans (hb2.mono HB1.out.size))
  clear hb2 c1 c2
  have te := text_eq n m h k
  have l1 := text_len n h n0 n1
  have l2 := text_len m k m0 m1
  by_cases hnm : n = m
  · subst hnm
    by_cases hk : h = k
    · subst hk
      clear te
      go_wp2_with fail
      refine (len_any n h w2 n0 n1).mono ?_
      rintro e w3 ⟨rfl, hw3⟩
      obtain rfl := hw3.symm
      go_wp2_with fail
      refine (len_any n h w2 m0 m1).mono ?_
      rintro e w3 ⟨rfl, hw3⟩
      obtain rfl := hw3.symm
      go_wp2_with fail
      go_ret
      exact ⟨by simp, HB2.out⟩
    · have hkb : (h == k) = false := by simpa using hk
      have te' : (textOf n h == textOf n k) = false := by rw [te, hkb]; simp
      clear te hk
      go_wp2_with fail
      refine (len_any n h w2 n0 n1).mono ?_
      rintro e w3 ⟨rfl, hw3⟩
      obtain rfl := hw3.symm
      go_wp2_with fail
      refine (len_any n k w2 m0 m1).mono ?_
      rintro e w3 ⟨rfl, hw3⟩
      obtain rfl := hw3.symm
      go_wp2_with fail
      go_ret
      exact ⟨by simp, HB2.out⟩
  · have hnb : (n == m) = false := by simpa using hnm
    have te' : (textOf n h == textOf m k) = false := by rw [te, hnb]; rfl
    clear te hnm
    go_wp2_with fail
    refine (len_any n h w2 n0 n1).mono ?_
    rintro e w3 ⟨rfl, hw3⟩
    obtain rfl := hw3.symm
    go_wp2_with fail
    refine (len_any m k w2 m0 m1).mono ?_
    rintro e w3 ⟨rfl, hw3⟩
    obtain rfl := hw3.symm
    go_wp2_with fail
    go_ret
    exact ⟨by simp, HB2.out⟩

end Go.Proofs.Qxb6630891aDoor
