import Derived.Test.Qxb6630764aPlain
namespace Go.Proofs.Qxb6630764a
open Go.RowKit Go.Sort

/-- WHAT THE WALK IS TOLD OF A SLICE OF INSTANTS THAT CAME IN. -/
def Arr (w : World) (ao : Option Addr) (n : Nat) (xs : List (Int × Int)) : Prop :=
  xs.length = n ∧ (0 < n → ∃ b off, ao = some ⟨b, off, none⟩ ∧ ∀ i, i < n → w.cell? ⟨b, off + i * 2, none⟩ = some (.int .i64 (xs.getD i (0, 0)).1) ∧ w.cell? ⟨b, off + i * 2 + 1, none⟩ = some (.int .i32 (xs.getD i (0, 0)).2))

/-- 'ZZAdd'. -/
theorem zzadd_any (B L g n cap hd : Nat) (rs rn a1 a2 b1 b2 : Int) (xs : List (Int × Int)) (w : World)
    (hL : w.heap[L]? = some (.cells #[.int .i64 rs, .int .i32 rn, .int .i32 hd, .slice (some ⟨g, 0, none⟩) n cap] 44 (0, 0)))
    (hown : w.ownsRow B 42 2 (.slice (some ⟨g, 0, none⟩) n cap) n (flat xs)) (hx : xs.length = n) (hhd : hd ≤ n) (hn : n ≤ 1048576) (hBL : B ≤ L) :
    Calls Try.prog 9 #[.pointer (some ⟨L, 0, none⟩), .int .i64 a1, .int .i32 a2, .int .i64 b1, .int .i32 b2] w fun e w' => e = .returned (.tuple #[]) ∧
      ∃ (g' n' cap' hd' : Nat) (xs' : List (Int × Int)), w'.heap[L]? = some (.cells #[.int .i64 (later (rs, rn) (b1, b2)).1, .int .i32 (later (rs, rn) (b1, b2)).2, .int .i32 hd', .slice (some ⟨g', 0, none⟩) n' cap'] 44 (0, 0)) ∧
        w'.ownsRow B 42 2 (.slice (some ⟨g', 0, none⟩) n' cap') n' (flat xs') ∧ xs'.length = n' ∧ hd' ≤ n' ∧ n' ≤ n + 1 ∧ Ins (a1, a2) (xs.drop hd) (xs'.drop hd') ∧ Kept (fun k => k = L ∨ k = g) w w' ∧ (g' = g ∨ w.heap.size ≤ g') := by
  have h13 := add_any B L g n cap hd rs rn a1 a2 b1 b2 xs w hL hown hx hhd hn hBL
  have H13 := hide h13
  clear h13 hL hown
  go_enter Try.func9, Try.ntmps9
  go_wp2_with fail
  refine H13.out.mono ?_
  rintro e w1 ⟨rfl, hq⟩
  have HQ := hide hq
  clear hq
  go_wp2
  go_end0
  exact ⟨rfl, HQ.out⟩

set_option maxRecDepth 100000 in
set_option maxHeartbeats 1000000 in
/-- The ways out ahead of the work. -/
theorem law1_early (rs rn hd : Int) (ao : Option Addr) (n cap : Nat) (sp a1 a2 b1 b2 : Int) (w : World) (hn : n ≤ maxLen) (h1 : -2147483648 ≤ hd) (h2 : hd ≤ 2147483647)
    (he : 65536 < n ∨ sp < 0 ∨ 65536 < sp ∨ hd < 0 ∨ (n : Int) < hd) :
    Calls Try.prog 3 #[.int .i64 rs, .int .i32 rn, .int .i32 hd, .slice ao n cap, .int .i64 sp, .agg #[.int .i64 a1, .int .i32 a2], .agg #[.int .i64 b1, .int .i32 b2]] w fun e w' => e = .returned (.bool true) ∧ Below w.heap.size w w' := by
  have fin : ∀ (w1 : World), Below ((w.alloc (.cells #[.int .i64 a1, .int .i32 a2] 24)).alloc (.cells #[.int .i64 b1, .int .i32 b2] 24)).heap.size ((w.alloc (.cells #[.int .i64 a1, .int .i32 a2] 24)).alloc (.cells #[.int .i64 b1, .int .i32 b2] 24)) w1 → Below w.heap.size w w1 :=
    fun w1 hb => (((Below.refl _ w).alloc (Nat.le_refl _) _).alloc (by simp) _).trans (hb.mono (by simp; omega))
  have HF := hide fin
  clear fin
  have hn' := hn
  unfold maxLen at hn'
  by_cases c1 : 1048576 < n
  · have hd1 : decide (n ≤ 1048576) = false := by simp; omega
    go_enter Try.func3, Try.ntmps3
    go_wp2_with fail
    refine (bytes3_any _ _ _ _ _ _ _ _ _ _ _ _ hn).mono ?_
    rintro e w1 ⟨rfl, hbel⟩
    have HB := hide hbel
    clear hbel
    rw [hd1]
    go_wp2
    go_ret
    exact ⟨rfl, HF.out _ HB.out⟩
  have hd1 : decide (n ≤ 1048576) = true := by simp; omega
  by_cases c2 : (65536 : Int) < n
  · go_enter Try.func3, Try.ntmps3
    go_wp2_with fail
    refine (bytes3_any _ _ _ _ _ _ _ _ _ _ _ _ hn).mono ?_
    rintro e w1 ⟨rfl, hbel⟩
    have HB := hide hbel
    clear hbel
    rw [hd1]
    go_wp2
    go_ret
    exact ⟨rfl, HF.out _ HB.out⟩
  by_cases c3 : sp < 0
  · go_enter Try.func3, Try.ntmps3
    go_wp2_with fail
    refine (bytes3_any _ _ _ _ _ _ _ _ _ _ _ _ hn).mono ?_
    rintro e w1 ⟨rfl, hbel⟩
    have HB := hide hbel
    clear hbel
    rw [hd1]
    go_wp2
    go_ret
    exact ⟨rfl, HF.out _ HB.out⟩
  have e3 : decide (sp < 0) = false := by simpa using c3
  by_cases c4 : 65536 < sp
  · go_enter Try.func3, Try.ntmps3
    go_wp2_with fail
    refine (bytes3_any _ _ _ _ _ _ _ _ _ _ _ _ hn).mono ?_
    rintro e w1 ⟨rfl, hbel⟩
    have HB := hide hbel
    clear hbel
    rw [hd1]
    go_wp2
    go_ret
    exact ⟨rfl, HF.out _ HB.out⟩
  have e4 : decide (65536 < sp) = false := by simpa using c4
  by_cases c5 : hd < 0
  · go_enter Try.func3, Try.ntmps3
    go_wp2_with fail
    refine (bytes3_any _ _ _ _ _ _ _ _ _ _ _ _ hn).mono ?_
    rintro e w1 ⟨rfl, hbel⟩
    have HB := hide hbel
    clear hbel
    rw [hd1]
    go_wp2
    go_ret
    exact ⟨rfl, HF.out _ HB.out⟩
  have e5 : decide (hd < 0) = false := by simpa using c5
  have c6 : (n : Int) < hd := by omega
  go_enter Try.func3, Try.ntmps3
  go_wp2_with fail
  refine (bytes3_any _ _ _ _ _ _ _ _ _ _ _ _ hn).mono ?_
  rintro e w1 ⟨rfl, hbel⟩
  have HB := hide hbel
  clear hbel
  rw [hd1]
  go_wp2
  go_ret
  exact ⟨rfl, HF.out _ HB.out⟩
end Go.Proofs.Qxb6630764a
