import Derived.Test.Qxb6630834aMem
namespace Go.Proofs.Qxb6630834a
open Go.RowKit

/-- What a search for a missing date answers. -/
def lackOut (O : Nat → ByteArray) (r : Option Nat) : Value := .tuple (match r with | none => #[.string ⟨#[]⟩, .bool false] | some i => #[.string (O i), .bool true])

set_option maxRecDepth 100000 in
set_option maxHeartbeats 4000000 in
theorem law1_any (ao : Option Addr) (n cap : Nat) (S : Nat → ByteArray) (po : Option Addr) (m cap2 : Nat) (O : Nat → ByteArray) (w : World) (hn : n ≤ maxLen) (hm : m ≤ maxLen) (hnc : n ≤ cap) (hmc : m ≤ cap2) (hs : Strs w ao n S) (ho : Strs w po m O) :
    Calls Try.prog 3 #[.slice ao n cap, .slice po m cap2] w fun e w' => e = .returned (.bool true) ∧ Below w.heap.size w w' := by
  have q22 : ∀ (w : World) (a : Option Addr) (n c n' c' : Nat), (binOp .neq 22 (.slice a n c) (.slice none n' c')).run Try.prog w = .ok (.bool (!a.isNone)) w := fun w a n c n' c' => run_neq_slice_nil_any w 22 9 a n c n' c' Try.underlying22
  have HS := hide hs
  have HO := hide ho
  clear hs ho
  have hn' := hn
  have hm' := hm
  unfold maxLen at hn' hm'
  have HNC := hide hnc
  have HMC := hide hmc
  clear hnc hmc
  go_enter Try.func3, Try.ntmps3
  go_wp2_with fail
  refine (bytes5_any _ _ _ S _ _ _ O _ hn hm HS.out HO.out).mono ?_
  rintro e w1 ⟨⟨b, hb, rfl⟩, hw1⟩
  obtain rfl := hw1.symm
  cases b
  · go_wp2
    go_ret
    exact ⟨rfl, Below.refl _ _⟩
  obtain ⟨⟨hn1, zs⟩, hm1, zo⟩ := hb rfl
  have ZS := hide zs
  have ZO := hide zo
  clear zs zo hb
  by_cases c1 : (4096 : Int) < n
  · go_wp2
    go_ret
    exact ⟨rfl, Below.refl _ _⟩
  by_cases c2 : (4096 : Int) < m
  · go_wp2
    go_ret
    exact ⟨rfl, Below.refl _ _⟩
  go_wp2_with fail
  refine (within_any _ _ _ S _ _ _ O _ (by omega) (by omega) HS.out HO.out ZS.out ZO.out).mono ?_
  rintro e w1 ⟨⟨b, _, rfl⟩, hw1⟩
  obtain rfl := hw1.symm
  cases b
  · go_wp2
    go_ret
    exact ⟨rfl, Below.refl _ _⟩
  clear ZS ZO
  go_wp2_with fail
  refine (asc_any _ _ _ S _ hn1 HS.out).mono ?_
  rintro e w1 ⟨b, hb, rfl, q, rfl⟩
  cases b
  · go_wp2
    go_ret
    exact ⟨rfl, below_drewN _ _⟩
  have has := hb rfl
  have HAS := hide has
  clear has hb
  go_wp2_with fail
  have ho2 : Strs (w.drewN q) po m O := HO.out.below (below_drewN _ _)
  refine (asc_any _ _ _ O _ hm1 ho2).mono ?_
  rintro e w1 ⟨b, hb, rfl, q2, rfl⟩
  have hw2 : Below w.heap.size w ((w.drewN q).drewN q2) := (below_drewN _ _).trans (below_drewN (w.drewN q) q2)
  have HW2 := hide hw2
  clear hw2 ho2
  have HSZ := hide (show ((w.drewN q).drewN q2).heap.size = w.heap.size from rfl)
  generalize ((w.drewN q).drewN q2) = w2 at *
  cases b
  · go_wp2
    go_ret
    exact ⟨rfl, HW2.out⟩
  have hao := hb rfl
  have HAO := hide hao
  clear hao hb
  go_upto_if 36 with fail
  go_cut [0] (fun s w' => ∃ (a' : Option Addr) (c' : Nat), s = .slice a' n c' ∧ n ≤ c' ∧ Strs w' a' n S ∧ Below w2.heap.size w2 w')
  case first =>
    have hs2 : Strs w2 ao n S := HS.out.below HW2.out
    cases ao with
    | none =>
      have HS2 := hide hs2
      clear hs2
      go_wp2
      go_meet
      case rel => exact ⟨_, _, rfl, HNC.out, HS2.out, Below.refl _ _⟩
    | some ad =>
      have hmk := fun wx => make9 n (by omega) wx
      have hs3 : Strs (w2.alloc (.cells (zeros (.string ⟨#[]⟩) n) 9)) (some ad) n S := hs2.below ((Below.refl _ _).alloc (Nat.le_refl _) _)
      have hmm := mine_made w2 n
      have hbb : Below w2.heap.size w2 (w2.alloc (.cells (zeros (.string ⟨#[]⟩) n) 9)) := (Below.refl _ _).alloc (Nat.le_refl _) _
      have HS3 := hide hs3
      have HMM := hide hmm
      have HBB := hide hbb
      clear hs2 hs3 hmm hbb
      go_wp2_with (refine wpList_clone rfl (.tmp 40) (.tmp 41) rfl _ n _ _ S rfl rfl _ HMM.out HS3.out ?_; intro w3 hm3 hb3)
      go_meet
      case rel => exact ⟨_, _, rfl, Nat.le_refl _, hm3.out.strs, HBB.out.trans hb3⟩
  case rest =>
    revert wc
    intro w3 hcut
    obtain ⟨a', c', rfl, hnc', hs3, hb3⟩ := hcut
    have HNC' := hide hnc'
    have HS3 := hide hs3
    have ho3 : Strs w3 po m O := (HO.out.below HW2.out).below hb3
    have HO3 := hide ho3
    have hb4 : Below w.heap.size w w3 := HW2.out.trans (hb3.mono (Nat.le_of_eq HSZ.out.symm))
    have HB4 := hide hb4
    clear hnc' hs3 ho3 hb3 hb4 HW2 HSZ HS HO
    go_upto_if 45 with fail
    go_cut [1] (fun s w' => ∃ (a' : Option Addr) (c' : Nat), s = .slice a' m c' ∧ m ≤ c' ∧ Strs w' a' m O ∧ Below w3.heap.size w3 w')
    case first =>
      cases po with
      | none =>
        go_wp2
        go_meet
        case rel => exact ⟨_, _, rfl, HMC.out, HO3.out, Below.refl _ _⟩
      | some ad =>
        have hmk := fun wx => make9 m (by omega) wx
        have hs3 : Strs (w3.alloc (.cells (zeros (.string ⟨#[]⟩) m) 9)) (some ad) m O := HO3.out.below ((Below.refl _ _).alloc (Nat.le_refl _) _)
        have hmm := mine_made w3 m
        have hbb : Below w3.heap.size w3 (w3.alloc (.cells (zeros (.string ⟨#[]⟩) m) 9)) := (Below.refl _ _).alloc (Nat.le_refl _) _
        have HO4 := hide hs3
        have HMM := hide hmm
        have HBB := hide hbb
        clear hs3 hmm hbb
        go_wp2_with (refine wpList_clone rfl (.tmp 49) (.tmp 50) rfl _ m _ _ O rfl rfl _ HMM.out HO4.out ?_; intro w4 hm4 hb4)
        go_meet
        case rel => exact ⟨_, _, rfl, Nat.le_refl _, hm4.out.strs, HBB.out.trans hb4⟩
    case rest =>
      revert wc
      intro w4 hcut
      obtain ⟨p', d', rfl, hmc', ho4, hb5⟩ := hcut
      have hs4 : Strs w4 a' n S := HS3.out.below hb5
      have hbb : Below w.heap.size w w4 := HB4.out.trans (hb5.mono HB4.out.size)
      have HS4 := hide hs4
      have HO4 := hide ho4
      have HBB := hide hbb
      have HMC' := hide hmc'
      clear hs4 ho4 hbb hb5 hmc' HS3 HO3 HB4
      go_wp2_with fail
      refine (lacks_any _ _ _ S _ _ _ O _ hn1 hm1 HMC'.out HS4.out HO4.out HAS.out HAO.out).mono ?_
      rintro e w5 ⟨⟨r, hr, rfl⟩, hw5⟩
      obtain rfl := hw5.symm
      have HR := hide hr
      clear hr
      cases r with
      | none =>
        go_wp2_with fail
        refine (first_any _ _ _ S _ _ _ O _ hn1 hm1 HS4.out HO4.out).mono ?_
        rintro e w6 ⟨⟨r2, hr2, rfl⟩, hw6⟩
        obtain rfl := hw6.symm
        obtain rfl := isFirst_unique HR.out hr2
        clear hr2
        go_wp2
        go_ret
        exact ⟨rfl, HBB.out⟩
      | some i =>
        go_wp2_with fail
        refine (first_any _ _ _ S _ _ _ O _ hn1 hm1 HS4.out HO4.out).mono ?_
        rintro e w6 ⟨⟨r2, hr2, rfl⟩, hw6⟩
        obtain rfl := hw6.symm
        obtain rfl := isFirst_unique HR.out hr2
        clear hr2
        go_wp2
        go_ret
        exact ⟨by simp, HBB.out⟩

end Go.Proofs.Qxb6630834a
