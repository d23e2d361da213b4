import Derived.Test.Qxb6630804aWalks
namespace Go.Proofs.Qxb6630804a
open Go.RowKit

/-- What the walk of 'gap' is told of the sizes, so that nothing wraps. -/
def Small (p : Int) (f : Nat → Int) (n : Nat) : Prop :=
  (-2305843009213693952 ≤ p ∧ p ≤ 2305843009213693952) ∧ (∀ i, i < n → -4611686018427387904 ≤ f i ∧ f i ≤ 4611686018427387904) ∧ (∀ i j, i < n → j < n → f i - f j ≤ 4611686018427387904)

theorem ret_int {k : IntKind} {a b : Int} (h : a = b) : Ending.returned (.int k a) = .returned (.int k b) := by rw [h]

set_option maxHeartbeats 1000000 in
theorem gap_any (R g n : Nat) (x0 p x3 x4 x5 x6 : Int) (f : Nat → Int) (w : World) (hn : 0 < n) (hn2 : n ≤ 4096)
    (hR : w.heap[R]? = some (.cells #[.int .i64 x0, .int .i64 p, .slice (some ⟨g, 0, none⟩) n n, .int .i64 x3, .int .i64 x4, .int .i64 x5, .int .i64 x6] 30 (0, 0))) (hm : Mine w g n f) (hs : Small p f n) :
    Calls Try.prog 10 #[.pointer (some ⟨R, 0, none⟩)] w fun e w' => e = .returned (.int .i64 (Plain.gapTo p f n (n - 1))) ∧ ∃ q, w' = w.drewN q := by
  obtain ⟨m, rfl⟩ : ∃ m, n = m + 1 := ⟨n - 1, by omega⟩
  have r1 : w.cell? ⟨R, 1, none⟩ = some (.int .i64 p) := by rw [cell_of_row w R 1 _ 30 _ hR]; rfl
  have r2 : w.cell? ⟨R, 2, none⟩ = some (.slice (some ⟨g, 0, none⟩) (m + 1) (m + 1)) := by rw [cell_of_row w R 2 _ 30 _ hR]; rfl
  have c0 := hm.cell 0 (by omega)
  have cm := hm.cell m (by omega)
  obtain ⟨⟨hp1, hp2⟩, hf, hd⟩ := hs
  have b0 := hf 0 (by omega)
  have bm := hf m (by omega)
  have d1 := hd 0 m (by omega) (by omega)
  have d2 := hd m 0 (by omega) (by omega)
  have HM := hide hm
  have HF := hide hf
  have HD := hide hd
  have hg0 : Plain.gapTo p f (m + 1) 0 = p - f m + f 0 := rfl
  have HG0 := hide hg0
  clear hg0 hm hf hd hR
  generalize hF : f 0 = F at *
  generalize hL : f m = L at *
  have HFF := hide hF
  have HLL := hide hL
  clear hF hL
  have hlt : (m : Int) < (m : Int) + 1 := by omega
  have hpos : (0 : Int) < (m : Int) + 1 := by omega
  go_enter Try.func10, Try.ntmps10
  go_wp2
  go_quiet (fail)
  go_wp2
  clear c0 cm
  go_loopw [3, 4] (fun gv i wr => ∃ k q : Nat, k ≤ m ∧ i = .int .i64 ((k : Int) + 1) ∧ gv = .int .i64 (Plain.gapTo p f (m + 1) k) ∧ wr = w.drewN q) (fun _ i _ => m + 1 - (intOf i).toNat)
  case atStart => exact ⟨0, nq, Nat.zero_le _, rfl, by rw [HG0.out], rfl⟩
  case round =>
    obtain ⟨k, q, hk, rfl, rfl, rfl⟩ := hrel
    by_cases hkm : k < m
    · have e1 := HM.out.cell k (by omega)
      have e2 := HM.out.cell (k + 1) (by omega)
      have v1 := HF.out k (by omega)
      have v2 := HF.out (k + 1) (by omega)
      have v3 := HD.out k (k + 1) (by omega) (by omega)
      have v4 := HD.out (k + 1) k (by omega) (by omega)
      have hst : Plain.gapTo p f (m + 1) (k + 1) = min (Plain.gapTo p f (m + 1) k) (f (k + 1) - f k) := rfl
      generalize f k = y at *
      generalize f (k + 1) = x at *
      have HST := hide hst
      clear hst
      generalize Plain.gapTo p f (m + 1) k = G at *
      have hk1 : (k : Int) + 1 < (m : Int) + 1 := by omega
      by_cases hc : x - y < G
      · go_wp2
        go_quiet (fail)
        go_wp2
        go_roundw
        case rel => exact ⟨k + 1, q + nq, by omega, by go_num, by rw [HST.out, Int.min_eq_right (by omega)], rfl⟩
        case measure => simp [intOf]; omega
      · go_wp2
        go_quiet (fail)
        go_wp2
        go_roundw
        case rel => exact ⟨k + 1, q + nq, by omega, by go_num, by rw [HST.out, Int.min_eq_left (by omega)], rfl⟩
        case measure => simp [intOf]; omega
    · have hkm2 : k = m := by omega
      subst hkm2
      go_wp2
      go_ret
      exact ⟨rfl, q, rfl⟩

theorem zzgap_any (R g n : Nat) (x0 p x3 x4 x5 x6 : Int) (f : Nat → Int) (w : World) (hn : 0 < n) (hn2 : n ≤ 4096)
    (hR : w.heap[R]? = some (.cells #[.int .i64 x0, .int .i64 p, .slice (some ⟨g, 0, none⟩) n n, .int .i64 x3, .int .i64 x4, .int .i64 x5, .int .i64 x6] 30 (0, 0))) (hm : Mine w g n f) (hs : Small p f n) :
    Calls Try.prog 7 #[.pointer (some ⟨R, 0, none⟩)] w fun e w' => e = .returned (.int .i64 (Plain.gapTo p f n (n - 1))) ∧ ∃ q, w' = w.drewN q := by
  have H := hide (gap_any R g n x0 p x3 x4 x5 x6 f w hn hn2 hR hm hs)
  clear hR hm hs
  go_enter Try.func7, Try.ntmps7
  go_wp2_with fail
  refine H.out.mono ?_
  rintro e w1 ⟨rfl, q, rfl⟩
  go_wp2
  go_ret
  exact ⟨rfl, q, rfl⟩
end Go.Proofs.Qxb6630804a
