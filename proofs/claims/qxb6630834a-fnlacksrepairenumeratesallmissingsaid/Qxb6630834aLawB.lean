import Derived.Test.Qxb6630834aWalksB
namespace Go.Proofs.Qxb6630834a
open Go.RowKit

theorem key_ins (C : Nat → ByteArray) (pos : Nat) (d : ByteArray) : key (fun i => if i < pos then C i else if i = pos then d else C (i - 1)) = insK (key C) pos d.toList := by
  funext i
  simp only [key, insK]
  by_cases h1 : i < pos
  · simp [h1]
  · by_cases h2 : i = pos
    · simp [h2]
    · simp [h1, h2]

set_option maxRecDepth 100000 in
set_option maxHeartbeats 4000000 in
theorem law2_any (ao : Option Addr) (n cap : Nat) (S : Nat → ByteArray) (po : Option Addr) (m cap2 : Nat) (O : Nat → ByteArray) (w : World) (hn : n ≤ maxLen) (hm : m ≤ maxLen) (hmc : m ≤ cap2) (hs : Strs w ao n S) (ho : Strs w po m O) :
    Calls Try.prog 4 #[.slice ao n cap, .slice po m cap2] w fun e w' => e = .returned (.bool true) ∧ Below w.heap.size w w' := by
  have q22 : ∀ (w : World) (a : Option Addr) (n c n' c' : Nat), (binOp .neq 22 (.slice a n c) (.slice none n' c')).run Try.prog w = .ok (.bool (!a.isNone)) w := fun w a n c n' c' => run_neq_slice_nil_any w 22 9 a n c n' c' Try.underlying22
  have HS := hide hs
  have HO := hide ho
  clear hs ho
  have hn' := hn
  have hm' := hm
  unfold maxLen at hn' hm'
  have HMC := hide hmc
  clear hmc
  go_enter Try.func4, Try.ntmps4
  go_wp2_with fail
  refine (bytes10_any _ _ _ S _ _ _ O _ hn hm HS.out HO.out).mono ?_
  rintro e w1 ⟨⟨b, hb, rfl⟩, hw1⟩
  obtain rfl := hw1.symm
  cases b
  · go_wp2
    go_ret
    exact ⟨rfl, Below.refl _ _⟩
  obtain ⟨⟨hn1, zs⟩, hm1, zo⟩ := hb rfl
  have ZS := hide zs
  have ZO := hide zo
  clear zs zo hb
  by_cases c1 : (4096 : Int) < n
  · go_wp2
    go_ret
    exact ⟨rfl, Below.refl _ _⟩
  by_cases c2 : (4096 : Int) < m
  · go_wp2
    go_ret
    exact ⟨rfl, Below.refl _ _⟩
  go_wp2_with fail
  refine (within_any _ _ _ S _ _ _ O _ (by omega) (by omega) HS.out HO.out ZS.out ZO.out).mono ?_
  rintro e w1 ⟨⟨b, _, rfl⟩, hw1⟩
  obtain rfl := hw1.symm
  cases b
  · go_wp2
    go_ret
    exact ⟨rfl, Below.refl _ _⟩
  clear ZS ZO
  go_wp2_with fail
  refine (asc_any _ _ _ S _ hn1 HS.out).mono ?_
  rintro e w1 ⟨b, hb, rfl, q, rfl⟩
  cases b
  · go_wp2
    go_ret
    exact ⟨rfl, below_drewN _ _⟩
  have has := hb rfl
  have HAS := hide has
  clear has hb
  go_wp2_with fail
  have ho2 : Strs (w.drewN q) po m O := HO.out.below (below_drewN _ _)
  refine (asc_any _ _ _ O _ hm1 ho2).mono ?_
  rintro e w1 ⟨b, hb, rfl, q2, rfl⟩
  have hw2 : Below w.heap.size w ((w.drewN q).drewN q2) := (below_drewN _ _).trans (below_drewN (w.drewN q) q2)
  have HW2 := hide hw2
  clear hw2 ho2
  have HSZ := hide (show ((w.drewN q).drewN q2).heap.size = w.heap.size from rfl)
  generalize ((w.drewN q).drewN q2) = w2 at *
  cases b
  · go_wp2
    go_ret
    exact ⟨rfl, HW2.out⟩
  have hao := hb rfl
  have HAO := hide hao
  clear hao hb
  go_upto_if 39 with fail
  go_cut [1] (fun s w' => ∃ (a' : Option Addr) (c' : Nat), s = .slice a' m c' ∧ m ≤ c' ∧ Strs w' a' m O ∧ Below w2.heap.size w2 w')
  case first =>
    have ho2 : Strs w2 po m O := HO.out.below HW2.out
    cases po with
    | none =>
      have HO2 := hide ho2
      clear ho2
      go_wp2
      go_meet
      case rel => exact ⟨_, _, rfl, HMC.out, HO2.out, Below.refl _ _⟩
    | some ad =>
      have hmk := fun wx => make9 m (by omega) wx
      have ho3 : Strs (w2.alloc (.cells (zeros (.string ⟨#[]⟩) m) 9)) (some ad) m O := ho2.below ((Below.refl _ _).alloc (Nat.le_refl _) _)
      have hmm := mine_made w2 m
      have hbb : Below w2.heap.size w2 (w2.alloc (.cells (zeros (.string ⟨#[]⟩) m) 9)) := (Below.refl _ _).alloc (Nat.le_refl _) _
      have HO3 := hide ho3
      have HMM := hide hmm
      have HBB := hide hbb
      clear ho2 ho3 hmm hbb
      go_wp2_with (refine wpList_clone rfl (.tmp 43) (.tmp 44) rfl _ m _ _ O rfl rfl _ HMM.out HO3.out ?_; intro w3 hm3 hb3)
      go_meet
      case rel => exact ⟨_, _, rfl, Nat.le_refl _, hm3.out.strs, HBB.out.trans hb3⟩
  case rest =>
    revert wc
    intro w3 hcut
    obtain ⟨p', d', rfl, hmc', ho3, hb3⟩ := hcut
    have HMC' := hide hmc'
    have HO3 := hide ho3
    have HS3 := hide ((HS.out.below HW2.out).below hb3)
    have HB4 := hide (HW2.out.trans (hb3.mono (Nat.le_of_eq HSZ.out.symm)))
    clear hmc' ho3 hb3 HW2 HSZ HS HO HMC
    have hmk := fun wx => make9 n (by omega) wx
    have HMM := hide (mine_made w3 n)
    have HBB := hide (show Below w3.heap.size w3 (w3.alloc (.cells (zeros (.string ⟨#[]⟩) n) 9)) from (Below.refl _ _).alloc (Nat.le_refl _) _)
    have hcl := cnt_le (key S) n (key O) m
    go_wp2_with (go_at_call 11; refine (count_any _ _ _ S _ _ _ O _ hn1 hm1 HS3.out HO3.out).mono ?_; rintro e w5 ⟨rfl, hw5⟩; obtain rfl := hw5.symm)
    generalize hal : w3.alloc (.cells (zeros (.string ⟨#[]⟩) n) 9) = w4 at *
    clear hal hmk
    go_loopw [8] (fun a wr => ∃ k : Nat, a = .int .i64 k ∧ k ≤ n ∧ Mine wr w3.heap.size n (fun i => if i < k then S i else ⟨#[]⟩) ∧ Below w3.heap.size w3 wr) (fun a _ => n - (intOf a).toNat)
    case atStart => exact ⟨0, rfl, Nat.zero_le _, HMM.out.congr (fun i _ => by simp), HBB.out⟩
    case round =>
      obtain ⟨k, rfl, hk, hmi, hb⟩ := hrel
      by_cases hlt : k < n
      · obtain ⟨b, off, rfl, hc⟩ := HS3.out.below hb (by omega)
        have c1 : wr.cell? ⟨b, off + k, none⟩ = some (.string (S k)) := hc k hlt
        have c2 : ∃ y, wr.cell? ⟨w3.heap.size, k, none⟩ = some (.string y) := ⟨_, hmi.cell k (by omega)⟩
        obtain ⟨y, c2⟩ := c2
        have c3 : ∀ i, wr.frozen? ⟨w3.heap.size, i, none⟩ = false := fun i => hmi.frozen i
        have hm2 := (hmi.set k (by omega) (S k)).congr (V' := fun i => if i < k + 1 then S i else ⟨#[]⟩) (fun i _ => by
          by_cases e : i = k
          · simp [e]
          · by_cases e2 : i < k
            · simp [e, e2, show i < k + 1 by omega]
            · simp [e, e2, show ¬ i < k + 1 by omega])
        have HM2 := hide hm2
        have HB2 := hide (hb.setCell (p := ⟨w3.heap.size, k, none⟩) (Nat.le_refl _) (.string (S k)))
        clear hm2 hmi hb hc
        go_wp2_with fail
        go_roundw
        case rel => exact ⟨k + 1, by go_num, by omega, HM2.out, HB2.out⟩
        case measure => simp [intOf]; omega
      · obtain rfl : k = n := by omega
        have HM2 := hide (hmi.congr (V' := S) (fun i hi => by simp [hi]))
        have HB2 := hide hb
        have HI := hide (inv_start (s := key S) (n := k) (o := key O) (m := m) HAS.out)
        clear hmi hb
        go_wp2_with fail
        go_loopw [7, 9, 10, 11] (fun cu f pr i wr => ∃ (g N p kk : Nat) (C : Nat → ByteArray) (pv : ByteArray), cu = .slice (some ⟨g, 0, none⟩) N N ∧ f = .int .i64 kk ∧ pr = .string pv ∧ i = .int .i64 kk ∧
          Mine wr g N C ∧ Below w3.heap.size w3 wr ∧ Inv (key S) k (key O) m (key C) N p kk ∧ (0 < kk → pv.toList = key O (p - 1))) (fun _ _ _ i _ => m + 1 - (intOf i).toNat)
        case atStart => exact ⟨_, _, 0, 0, S, _, rfl, rfl, rfl, rfl, HM2.out, HB2.out, HI.out, fun h => absurd h (Nat.lt_irrefl _)⟩
        case round =>
          clear HM2 HB2 HI HMM HBB
          obtain ⟨g, N, p, kk, C, pv, rfl, rfl, rfl, rfl, hmi, hb, hinv, hpv⟩ := hrel
          have HM := hide hmi
          have HB := hide hb
          have HI := hide hinv
          have HPV := hide hpv
          have hkm := hinv.kle
          have hNN := hinv.nn
          have HS5 := hide (HS3.out.below hb)
          have HO5 := hide (HO3.out.below hb)
          clear hmi hb hinv hpv
          have hN1 : N ≤ 1048576 := by omega
          have hN2 : N ≤ 1000000 := by omega
          have HNN := hide hNN
          clear hNN
          go_wp2_with fail
          refine (lacks_any (some ⟨g, 0, none⟩) N N C p' m d' O wr hN1 hm1 HMC'.out HM.out.strs HO5.out HI.out.asc HAO.out).mono ?_
          rintro e w6 ⟨⟨r, hr, rfl⟩, hw6⟩
          obtain rfl := hw6.symm
          have HR := hide hr
          clear hr
          cases r with
          | none =>
            have hdone := HI.out.done HAO.out HR.out
            have HD := hide hdone
            clear hdone
            go_wp2_with fail
            go_ret
            refine ⟨?_, HB4.out.trans (HB.out.mono HB4.out.size)⟩
            rw [HD.out]
            simp
          | some i =>
            obtain ⟨him, hpi, hms, _, hlt2⟩ := HI.out.found HAO.out HR.out
            obtain ⟨hkp, g1, g2, g3⟩ := (missB_iff _ _ _).1 hms
            obtain ⟨b, off, rfl, hc⟩ := HS5.out hkp
            have cm : wr.cell? ⟨b, off, none⟩ = some (.string (S 0)) := hc 0 hkp
            have cm2 : wr.cell? ⟨b, off + (k - 1), none⟩ = some (.string (S (k - 1))) := hc _ (by omega)
            have q1 : Op.bytesLess (O i).toList (S 0).toList = false := g1
            have q2 : (!Op.bytesLess (O i).toList (S (k - 1)).toList && !((O i).toList == (S (k - 1)).toList)) = false := by
              rw [← Bool.not_or]; exact (gtr_eq _ _).trans g2
            have l3 : hasB (key S) k (O i).toList = false := g3
            have l4 : hasB (key O) m (O i).toList = true := (hasB_iff _ _ _).2 ⟨i, him, rfl⟩
            have hkz : ((k : Int) == 0) = false := by simp; omega
            have HLT := hide hlt2
            clear hlt2 hms g1 g2 g3 hc
            go_wp2_with fail
            refine (holds_any _ _ _ S _ _ (by omega) HS5.out).mono ?_
            rintro e w6 ⟨rfl, hw6⟩
            obtain rfl := hw6.symm
            rw [l3]
            go_wp2_with fail
            refine (holds_any _ _ _ O _ _ (by omega) HO5.out).mono ?_
            rintro e w6 ⟨rfl, hw6⟩
            obtain rfl := hw6.symm
            rw [l4]
            clear cm cm2 q1 q2 l3 l4
            by_cases hk0 : (0 : Int) < kk
            · have q5 : Op.bytesLess pv.toList (O i).toList = true := by
                have := HLT.out (by omega)
                rw [← HPV.out (by omega)] at this
                exact this
              go_wp2_with fail
              refine (insert_any g N N C (O i) wr hN2 HM.out).mono ?_
              rintro e w7 ⟨⟨pos, hpo, hp1, hp2, hmi7⟩, rfl, hb7⟩
              have hinv7 := HI.out.next HAO.out HR.out hpo hp1 hp2
              have HM7 := hide hmi7
              have HB7 := hide (HB.out.trans (hb7.mono HB.out.size))
              have HI7 := hide (show Inv (key S) k (key O) m (key (fun j => if j < pos then C j else if j = pos then O i else C (j - 1))) (N + 1) (i + 1) (kk + 1) by rw [key_ins]; exact hinv7)
              clear hmi7 hb7 hinv7 hp1 hp2
              have hk7 := HI7.out.kle
              go_wp2_with fail
              go_roundw
              case rel => exact ⟨_, _, i + 1, kk + 1, _, O i, rfl, by go_num, rfl, by go_num, HM7.out, HB7.out, HI7.out, fun _ => rfl⟩
              case measure => simp [intOf]; omega
            · have q5 : decide ((0 : Int) < kk) = false := by simpa using hk0
              go_wp2_with fail
              refine (insert_any g N N C (O i) wr hN2 HM.out).mono ?_
              rintro e w7 ⟨⟨pos, hpo, hp1, hp2, hmi7⟩, rfl, hb7⟩
              have hinv7 := HI.out.next HAO.out HR.out hpo hp1 hp2
              have HM7 := hide hmi7
              have HB7 := hide (HB.out.trans (hb7.mono HB.out.size))
              have HI7 := hide (show Inv (key S) k (key O) m (key (fun j => if j < pos then C j else if j = pos then O i else C (j - 1))) (N + 1) (i + 1) (kk + 1) by rw [key_ins]; exact hinv7)
              clear hmi7 hb7 hinv7 hp1 hp2
              have hk7 := HI7.out.kle
              go_wp2_with fail
              go_roundw
              case rel => exact ⟨_, _, i + 1, kk + 1, _, O i, rfl, by go_num, rfl, by go_num, HM7.out, HB7.out, HI7.out, fun _ => rfl⟩
              case measure => simp [intOf]; omega

end Go.Proofs.Qxb6630834a
