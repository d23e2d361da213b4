import Derived.Test.Qxb6630764aMergePlain
namespace Go.Proofs.Qxb6630764a
open Go.RowKit Go.Sort

theorem Try.info24m : (Try.prog.info? 24).map (fun i => (i.zero, i.size, i.bytes)) = some (some (.agg #[.int .i64 0, .int .i32 0]), 2, 16) := by kernel_rfl

/-- 'make([]Inst, l, c)'. -/
theorem make24m (l c : Nat) (h : l ≤ c) (hc : c ≤ 65537) (w : World) :
    (Instr.makeSlice 22 (.int .i64 (l : Int)) (.int .i64 (c : Int))).run Try.prog w = .ok (.slice (some ⟨w.heap.size, 0, none⟩) l c) (w.alloc (.cells (madeCells #[.int .i64 0, .int .i32 0] (c * 2)) 24)) := by
  obtain ⟨i, hi, hz, hs, hb⟩ := info_parts Try.info24m
  have := run_make (P := Try.prog) w 22 24 i _ Try.underlying22 hi hz .i64 .i64 l c (by omega) (by omega) (by rw [hb]; omega) (by omega)
  rw [hs] at this
  simpa [Value.cells] using this

/-- n instants at ⟨b, off⟩. -/
def Insts (w : World) (b off n : Nat) (xs : List (Int × Int)) : Prop :=
  ∀ i, i < n → w.cell? ⟨b, off + i * 2, none⟩ = some (.int .i64 (xs.getD i (0, 0)).1) ∧ w.cell? ⟨b, off + i * 2 + 1, none⟩ = some (.int .i32 (xs.getD i (0, 0)).2)

/-- What mergeSortInst leaves. -/
def Msorted (w : World) (n : Nat) (xs : List (Int × Int)) (e : Ending) (w' : World) : Prop :=
  ∃ (g : Nat) (ys : List (Int × Int)), e = .returned (.slice (some ⟨g, 0, none⟩) n n) ∧ ys.Perm xs ∧ SortedP ys ∧ w'.ownsRow w.heap.size 24 2 (.slice (some ⟨g, 0, none⟩) n n) n (flat ys) ∧ Below w.heap.size w w'

theorem msort_small (b off n cap : Nat) (xs : List (Int × Int)) (w : World) (hn : n ≤ 1) (hx : xs.length = n) (hb : b < w.heap.size) (hc : Insts w b off n xs) :
    Calls Try.prog 12 #[.slice (some ⟨b, off, none⟩) n cap] w (Msorted w n xs) := by
  have hmk := fun wx => make24m n n (Nat.le_refl _) (by omega) wx
  have H0 := hide (owns_made w n n (Nat.le_refl _) (by omega) 24)
  generalize madeCells #[.int .i64 0, .int .i32 0] (n * 2) = mc at *
  have HC := hide hc
  clear hc
  go_enter Try.func12, Try.ntmps12
  go_wp2_with fail
  go_loopw [4] (fun i wr => ∃ k : Nat, k ≤ n ∧ i = .int .i64 k ∧ wr.ownsRow w.heap.size 24 2 (.slice (some ⟨w.heap.size, 0, none⟩) n n) n (flat (xs.take k ++ List.replicate (n - k) (0, 0))) ∧ Below w.heap.size w wr) (fun i _ => n - (intOf i).toNat)
  case atStart => exact ⟨0, Nat.zero_le _, rfl, by simpa using H0.out, (Below.refl _ _).alloc (Nat.le_refl _) _⟩
  case round =>
    obtain ⟨k, hk, rfl, hown, hbel⟩ := hrel
    by_cases hlt : k < n
    · have hlen : (xs.take k ++ List.replicate (n - k) (0, 0)).length = n := by simp; omega
      obtain ⟨c3, c4⟩ := inst_at hown hlen k hlt
      have f3 : ∀ j, wr.frozen? ⟨w.heap.size, j, none⟩ = false := fun j => hown.frozenAt j
      obtain ⟨c1, c2⟩ := HC.out k hlt
      have d1 : wr.cell? ⟨b, off + k * 2, none⟩ = some (.int .i64 (xs.getD k (0, 0)).1) := (hbel.cell (p := ⟨b, off + k * 2, none⟩) hb).trans c1
      have d2 : wr.cell? ⟨b, off + k * 2 + 1, none⟩ = some (.int .i32 (xs.getD k (0, 0)).2) := (hbel.cell (p := ⟨b, off + k * 2 + 1, none⟩) hb).trans c2
      have e := fill_set xs (0, 0) (0, 0) k n hx hlt
      have R := inst_set hown k (xs.getD k (0, 0))
      rw [e] at R
      generalize xs.getD k (0, 0) = p at *
      generalize (xs.take k ++ List.replicate (n - k) (0, 0)).getD k (0, 0) = q at *
      have HR := hide R
      clear R e hown c1 c2
      go_wp2_with fail
      go_roundw
      case rel => exact ⟨k + 1, by omega, by go_num, HR.out, (hbel.setCell (Nat.le_refl _) _).setCell (Nat.le_refl _) _⟩
      case measure => simp [intOf]; omega
    · have hkn : k = n := by omega
      subst hkn
      rw [List.take_of_length_le (by omega), Nat.sub_self, List.replicate_zero, List.append_nil] at hown
      go_wp2_with fail
      go_ret
      refine ⟨w.heap.size, xs, rfl, List.Perm.refl _, ?_, hown, hbel⟩
      match xs, hx with
      | [], _ => exact List.Pairwise.nil
      | [x], _ => exact List.pairwise_singleton _ _
      | _ :: _ :: _, h => simp at h; omega

set_option maxRecDepth 100000 in
set_option maxHeartbeats 4000000 in
theorem msort_any (N : Nat) : ∀ (b off n cap : Nat) (xs : List (Int × Int)) (w : World), n ≤ N → n ≤ 4096 → n ≤ cap → xs.length = n → b < w.heap.size → Insts w b off n xs →
    Calls Try.prog 12 #[.slice (some ⟨b, off, none⟩) n cap] w (Msorted w n xs) := by
  induction N with
  | zero => intro b off n cap xs w h1 h2 h3 hx hb hc; exact msort_small b off n cap xs w (by omega) hx hb hc
  | succ N ih =>
    intro b off n cap xs w h1 h2 h3 hx hb hc
    by_cases hn : n ≤ 1
    · exact msort_small b off n cap xs w hn hx hb hc
    have IH := hide ih
    have HC := hide hc
    clear ih hc
    obtain ⟨mid, hmid⟩ : ∃ mid, mid = n / 2 := ⟨_, rfl⟩
    have hq : (n : Int) / 2 = (mid : Int) := by omega
    have hm1 : 1 ≤ mid := by omega
    have hm2 : mid < n := by omega
    have hm3 : mid ≤ N := by omega
    have hm4 : n - mid ≤ N := by omega
    clear hmid
    have hc0 : ¬ cap = 0 := by omega
    have hcm : ¬ cap = mid := by omega
    go_enter Try.func12, Try.ntmps12
    go_wp2_with fail
    refine (IH.out b off mid cap (xs.take mid) w hm3 (by omega) (by omega) (by simp; omega) hb (fun i hi => by
      have e : (xs.take mid).getD i (0, 0) = xs.getD i (0, 0) := by simp [List.getD, hi]
      rw [e]; exact HC.out i (by omega))).mono ?_
    rintro e w1 ⟨gl, L, rfl, pL, sL, oL, bL⟩
    have hw1 : w.heap.size ≤ w1.heap.size := bL.size
    have hgl := owns_lt oL
    have PL := hide pL
    have SL := hide sL
    have OL := hide oL
    have BL := hide bL
    clear pL sL oL bL
    go_wp2_with fail
    refine (IH.out b (off + mid * 2) (n - mid) (cap - mid) (xs.drop mid) w1 hm4 (by omega) (by omega) (by simp; omega) (by omega) (fun i hi => by
      have e : (xs.drop mid).getD i (0, 0) = xs.getD (mid + i) (0, 0) := by simp [List.getD]
      have hh := HC.out (mid + i) (by omega)
      have e2 : off + mid * 2 + i * 2 = off + (mid + i) * 2 := by omega
      rw [e, e2]
      exact ⟨(BL.out.cell (p := ⟨b, _, none⟩) hb).trans hh.1, (BL.out.cell (p := ⟨b, _, none⟩) hb).trans hh.2⟩)).mono ?_
    rintro e w2 ⟨gr, R, rfl, pR, sR, oR, bR⟩
    have hw2 : w1.heap.size ≤ w2.heap.size := bR.size
    have hgr := owns_lt oR
    have PR := hide pR
    have SR := hide sR
    have OR := hide oR
    have OL2 := hide (owns_kept OL.out (Kept.of_below (bad := fun _ => False) bR) (fun q => q))
    have BR := hide (BL.out.trans (bR.mono BL.out.size))
    clear pR sR oR bR OL BL HC IH
    have hLl : L.length = mid := by rw [PL.out.length_eq]; simp; omega
    have hRl : R.length = n - mid := by rw [PR.out.length_eq]; simp; omega
    have hmk : ∀ wx : World, (Instr.makeSlice 22 (.int .i64 0) (.int .i64 (n : Int))).run Try.prog wx = .ok (.slice (some ⟨wx.heap.size, 0, none⟩) 0 n) (wx.alloc (.cells (madeCells #[.int .i64 0, .int .i32 0] (n * 2)) 24)) := fun wx => make24m 0 n (by omega) (by omega) wx
    have h0 : (w2.alloc (.cells (madeCells #[.int .i64 0, .int .i32 0] (n * 2)) 24)).ownsRow w2.heap.size 24 2 (.slice (some ⟨w2.heap.size, 0, none⟩) 0 n) 0 (flat []) := by
      simpa using owns_made w2 0 n (by omega) (by omega) 24
    generalize madeCells #[.int .i64 0, .int .i32 0] (n * 2) = mc at *
    have H0 := hide h0
    clear h0 hq
    obtain ⟨i0, hi0, hz0, hz1, hz2⟩ := info_parts Try.info24m
    have HLl := hide hLl
    have HRl := hide hRl
    clear hLl hRl
    obtain ⟨r, hr⟩ : ∃ r, n - mid = r := ⟨_, rfl⟩
    rw [hr] at HRl OR ⊢
    have hmr : mid + r = n := by omega
    have HMR := hide hmr
    clear hr hmr hm4
    have hrn : r ≤ 4096 := by have := HMR.out; omega
    have hmn : mid ≤ 4096 := by omega
    go_upto_block 2 with fail
    go_cut [8, 9, 10] from 11 (fun v a b w' => ∃ (i j : Nat) (out : List (Int × Int)), a = .int .i64 i ∧ b = .int .i64 j ∧ i ≤ mid ∧ j ≤ r ∧ v = .slice (some ⟨w2.heap.size, 0, none⟩) (i + j) n ∧ w'.ownsRow w2.heap.size 24 2 (.slice (some ⟨w2.heap.size, 0, none⟩) (i + j) n) (i + j) (flat out) ∧ Mg L R out i j ∧ (i = mid ∨ j = r) ∧ Below w2.heap.size w2 w')
    case rest =>
      revert wc
      intro w5 hcut
      obtain ⟨i1, j, out1, rfl, rfl, hi1, hj, rfl, ho5, hmg5, hor5, hb5⟩ := hcut
      have HO5 := hide ho5
      have HMG5 := hide hmg5
      have HOR5 := hide hor5
      have HB5 := hide hb5
      clear ho5 hmg5 hor5 hb5 hmk H0
      go_upto_block 4 with fail
      go_cut [8, 9] from 11 (fun v a w' => ∃ out : List (Int × Int), a = .int .i64 mid ∧ v = .slice (some ⟨w2.heap.size, 0, none⟩) (mid + j) n ∧ w'.ownsRow w2.heap.size 24 2 (.slice (some ⟨w2.heap.size, 0, none⟩) (mid + j) n) (mid + j) (flat out) ∧ Mg L R out mid j ∧ Below w2.heap.size w2 w')
      case rest =>
        revert wc
        intro w6 hcut
        obtain ⟨out2, rfl, rfl, ho6, hmg6, hb6⟩ := hcut
        have HO6 := hide ho6
        have HMG6 := hide hmg6
        have HB6 := hide hb6
        clear ho6 hmg6 hb6 HO5 HMG5 HOR5 HB5
        go_wp2_with fail
        go_loopw [8, 10] (fun v b wr => ∃ (j : Nat) (out : List (Int × Int)), b = .int .i64 j ∧ j ≤ r ∧ v = .slice (some ⟨w2.heap.size, 0, none⟩) (mid + j) n ∧ wr.ownsRow w2.heap.size 24 2 (.slice (some ⟨w2.heap.size, 0, none⟩) (mid + j) n) (mid + j) (flat out) ∧ Mg L R out mid j ∧ Below w2.heap.size w2 wr) (fun _ b _ => r - (intOf b).toNat)
        case atStart => exact ⟨j, out2, rfl, hj, rfl, HO6.out, HMG6.out, HB6.out⟩
        case round =>
          obtain ⟨j, out, rfl, hj, rfl, ho, hmg, hbel⟩ := hrel
          have HO := hide ho
          have HMG := hide hmg
          clear ho hmg
          by_cases hjR : j < r
          · have oR := owns_kept OR.out ⟨hbel.os, hbel.tape, hbel.output, hbel.size, fun k _ hk => hbel.block k (by have hk' : ¬ w2.heap.size ≤ k := hk; omega)⟩ (by show ¬ w2.heap.size ≤ gr; omega)
            obtain ⟨c3, c4⟩ := inst_at oR HRl.out j hjR
            have sl := mg_right HMG.out SR.out (by have := HRl.out; omega) (fun y hy => by rw [List.drop_of_length_le (by have := HLl.out; omega)] at hy; simp at hy)
            generalize R.getD j (0, 0) = q at *
            have SLT := hide sl
            clear sl oR
            have hw3 : w2.heap.size ≤ wr.heap.size := hbel.size
            go_wp2_with (at_builtin; refine wpList_append_fits _ rfl (.tmp 99) (.tmp 104) 22 rfl w2.heap.size 24 i0 2 Try.underlying22 hi0 hz1 w2.heap.size (mid + j) n (flat out) rfl (HO.out.alloc _) ⟨wr.heap.size, 0, none⟩ 1 1 (flat [q]) rfl rfl (new_cells wr q 24) (flat_one _) (by have := HMR.out; omega) ?_)
            intro w4 ho4 hg4
            rw [← flat_append, show mid + j + 1 = mid + (j + 1) by omega] at ho4
            have hb4 : Below w2.heap.size w2 w4 := (hbel.alloc hw3 _).grown hg4 (by simp; omega) (fun k hk => by cases hk; exact Nat.le_refl _)
            have HO4 := hide ho4
            have HB4 := hide hb4
            clear ho4 hb4 hg4 c3 c4
            go_wp2_with fail
            go_roundw
            case rel => exact ⟨j + 1, out ++ [q], by go_num, by omega, by rw [show mid + j + 1 = mid + (j + 1) by omega], HO4.out, SLT.out, HB4.out⟩
            case measure => simp [intOf]; omega
          · have hjr : j = r := by omega
            subst hjr
            go_wp2_with fail
            go_ret
            have hn' := HMR.out
            have hperm : out.Perm xs := by
              refine (mg_done HMG.out (by have := HLl.out; omega) (by have := HRl.out; omega)).trans ?_
              refine (PL.out.append PR.out).trans ?_
              rw [List.take_append_drop]
            subst hn'
            exact ⟨w2.heap.size, out, rfl, hperm, HMG.out.sorted, owns_base HO.out (by omega), BR.out.trans (hbel.mono BR.out.size)⟩
      case first =>
        go_wp2_with fail
        go_loopw [8, 9] (fun v a wr => ∃ (i : Nat) (out : List (Int × Int)), a = .int .i64 i ∧ i ≤ mid ∧ v = .slice (some ⟨w2.heap.size, 0, none⟩) (i + j) n ∧ wr.ownsRow w2.heap.size 24 2 (.slice (some ⟨w2.heap.size, 0, none⟩) (i + j) n) (i + j) (flat out) ∧ Mg L R out i j ∧ (i = mid ∨ j = r) ∧ Below w2.heap.size w2 wr) (fun _ a _ => mid - (intOf a).toNat)
        case atStart => exact ⟨i1, out1, rfl, hi1, rfl, HO5.out, HMG5.out, HOR5.out, HB5.out⟩
        case round =>
          obtain ⟨i, out, rfl, hi, rfl, ho, hmg, hor, hbel⟩ := hrel
          have HO := hide ho
          have HMG := hide hmg
          have HOR := hide hor
          clear ho hmg hor
          by_cases hiL : i < mid
          · have oL := owns_kept OL2.out ⟨hbel.os, hbel.tape, hbel.output, hbel.size, fun k _ hk => hbel.block k (by have hk' : ¬ w2.heap.size ≤ k := hk; omega)⟩ (by show ¬ w2.heap.size ≤ gl; omega)
            obtain ⟨c1, c2⟩ := inst_at oL HLl.out i hiL
            have sl := mg_left HMG.out SL.out (by have := HLl.out; omega) (fun y hy => by rw [List.drop_of_length_le (by have := HRl.out; have := HOR.out; omega)] at hy; simp at hy)
            generalize L.getD i (0, 0) = p at *
            have SLT := hide sl
            clear sl oL
            have hw3 : w2.heap.size ≤ wr.heap.size := hbel.size
            go_wp2_with (at_builtin; refine wpList_append_fits _ rfl (.tmp 86) (.tmp 91) 22 rfl w2.heap.size 24 i0 2 Try.underlying22 hi0 hz1 w2.heap.size (i + j) n (flat out) rfl (HO.out.alloc _) ⟨wr.heap.size, 0, none⟩ 1 1 (flat [p]) rfl rfl (new_cells wr p 24) (flat_one _) (by have := HMR.out; omega) ?_)
            intro w4 ho4 hg4
            rw [← flat_append, show i + j + 1 = (i + 1) + j by omega] at ho4
            have hb4 : Below w2.heap.size w2 w4 := (hbel.alloc hw3 _).grown hg4 (by simp; omega) (fun k hk => by cases hk; exact Nat.le_refl _)
            have HO4 := hide ho4
            have HB4 := hide hb4
            clear ho4 hb4 hg4 c1 c2
            go_wp2_with fail
            go_roundw
            case rel => exact ⟨i + 1, out ++ [p], by go_num, by omega, by rw [show i + j + 1 = (i + 1) + j by omega], HO4.out, SLT.out, by have := HOR.out; omega, HB4.out⟩
            case measure => simp [intOf]; omega
          · have him : i = mid := by omega
            subst him
            go_wp2_with fail
            go_meet
            case rel => exact ⟨out, rfl, rfl, HO.out, HMG.out, hbel⟩
    case first =>
      clear hmk
      go_wp2_with fail
      go_loopw [8, 9, 10] (fun v a b wr => ∃ (i j : Nat) (out : List (Int × Int)), a = .int .i64 i ∧ b = .int .i64 j ∧ i ≤ mid ∧ j ≤ r ∧ v = .slice (some ⟨w2.heap.size, 0, none⟩) (i + j) n ∧ wr.ownsRow w2.heap.size 24 2 (.slice (some ⟨w2.heap.size, 0, none⟩) (i + j) n) (i + j) (flat out) ∧ Mg L R out i j ∧ Below w2.heap.size w2 wr) (fun _ a b _ => (mid - (intOf a).toNat) + (r - (intOf b).toNat))
      case atStart => exact ⟨0, 0, [], rfl, rfl, Nat.zero_le _, Nat.zero_le _, rfl, by simpa using H0.out, mg_start L R, (Below.refl _ _).alloc (Nat.le_refl _) _⟩
      case round =>
        obtain ⟨i, j, out, rfl, rfl, hi, hj, rfl, ho, hmg, hbel⟩ := hrel
        have HO := hide ho
        have HMG := hide hmg
        clear ho hmg
        by_cases hiL : i < mid
        · by_cases hjR : j < r
          · have oL := owns_kept OL2.out ⟨hbel.os, hbel.tape, hbel.output, hbel.size, fun k _ hk => hbel.block k (by have hk' : ¬ w2.heap.size ≤ k := hk; omega)⟩ (by show ¬ w2.heap.size ≤ gl; omega)
            have oR := owns_kept OR.out ⟨hbel.os, hbel.tape, hbel.output, hbel.size, fun k _ hk => hbel.block k (by have hk' : ¬ w2.heap.size ≤ k := hk; omega)⟩ (by show ¬ w2.heap.size ≤ gr; omega)
            obtain ⟨c1, c2⟩ := inst_at oL HLl.out i hiL
            obtain ⟨c3, c4⟩ := inst_at oR HRl.out j hjR
            have sl := fun hb => mg_lt HMG.out SL.out SR.out (by have := HRl.out; omega) hb
            have sg := fun hb => mg_ge HMG.out SL.out SR.out (by have := HLl.out; omega) hb
            generalize L.getD i (0, 0) = p at *
            generalize R.getD j (0, 0) = q at *
            have SLT := hide sl
            have SGE := hide sg
            have m1 : ∀ d os, (grow (redrawn wr d) os).cell? ⟨gl, i * 2, none⟩ = some (.int .i64 p.1) := fun d os => cell_regrown c1 d os
            have m2 : ∀ d os, (grow (redrawn wr d) os).cell? ⟨gl, i * 2 + 1, none⟩ = some (.int .i32 p.2) := fun d os => cell_regrown c2 d os
            have m3 : ∀ d os, (grow (redrawn wr d) os).cell? ⟨gr, j * 2, none⟩ = some (.int .i64 q.1) := fun d os => cell_regrown c3 d os
            have m4 : ∀ d os, (grow (redrawn wr d) os).cell? ⟨gr, j * 2 + 1, none⟩ = some (.int .i32 q.2) := fun d os => cell_regrown c4 d os
            clear sl sg oL oR c1 c2 c3 c4
            cases hb : ltB q p
            · go_wp2_with fail
              refine wp_region_quiet_below (by kernel_rfl) (by kernel_rfl) ?_
              repeat (go_big_quiet_step (exact Calls.regrown_of (less_any _ _ _ _ _)))
              refine wpQuiet_nil ?_
              intro _ hw'
              obtain ⟨⟨dq, osq⟩, hw''⟩ := hw'
              subst hw''
              rw [hb]
              have c1 := m1 dq osq
              have c2 := m2 dq osq
              have hb3 := hbel.trans ((below_regrown wr dq osq).mono hbel.size)
              have ho3 := owns_kept HO.out (Kept.of_below (bad := fun _ => False) (below_regrown wr dq osq)) (fun q => q)
              clear m1 m2 m3 m4
              generalize grow (redrawn wr dq) osq = w3 at *
              have hw3 : w2.heap.size ≤ w3.heap.size := hb3.size
              go_wp2_with (at_builtin; refine wpList_append_fits _ rfl (.tmp 73) (.tmp 78) 22 rfl w2.heap.size 24 i0 2 Try.underlying22 hi0 hz1 w2.heap.size (i + j) n (flat out) rfl (ho3.alloc _) ⟨w3.heap.size, 0, none⟩ 1 1 (flat [p]) rfl rfl (new_cells w3 p 24) (flat_one _) (by have := HMR.out; omega) ?_)
              intro w4 ho4 hg4
              rw [← flat_append, show i + j + 1 = (i + 1) + j by omega] at ho4
              have hb4 : Below w2.heap.size w2 w4 := (hb3.alloc hw3 _).grown hg4 (by simp; omega) (fun k hk => by cases hk; exact Nat.le_refl _)
              have HO4 := hide ho4
              have HB4 := hide hb4
              clear ho4 hb4 hg4 ho3 hb3 c1 c2
              go_wp2_with fail
              go_roundw
              case rel => exact ⟨i + 1, j, out ++ [p], by go_num, rfl, by omega, hj, by rw [show i + j + 1 = (i + 1) + j by omega], HO4.out, SGE.out hb, HB4.out⟩
              case measure => simp [intOf]; omega
            · go_wp2_with fail
              refine wp_region_quiet_below (by kernel_rfl) (by kernel_rfl) ?_
              repeat (go_big_quiet_step (exact Calls.regrown_of (less_any _ _ _ _ _)))
              refine wpQuiet_nil ?_
              intro _ hw'
              obtain ⟨⟨dq, osq⟩, hw''⟩ := hw'
              subst hw''
              rw [hb]
              have c3 := m3 dq osq
              have c4 := m4 dq osq
              have hb3 := hbel.trans ((below_regrown wr dq osq).mono hbel.size)
              have ho3 := owns_kept HO.out (Kept.of_below (bad := fun _ => False) (below_regrown wr dq osq)) (fun q => q)
              clear m1 m2 m3 m4
              generalize grow (redrawn wr dq) osq = w3 at *
              have hw3 : w2.heap.size ≤ w3.heap.size := hb3.size
              go_wp2_with (at_builtin; refine wpList_append_fits _ rfl (.tmp 64) (.tmp 69) 22 rfl w2.heap.size 24 i0 2 Try.underlying22 hi0 hz1 w2.heap.size (i + j) n (flat out) rfl (ho3.alloc _) ⟨w3.heap.size, 0, none⟩ 1 1 (flat [q]) rfl rfl (new_cells w3 q 24) (flat_one _) (by have := HMR.out; omega) ?_)
              intro w4 ho4 hg4
              rw [← flat_append, show i + j + 1 = i + (j + 1) by omega] at ho4
              have hb4 : Below w2.heap.size w2 w4 := (hb3.alloc hw3 _).grown hg4 (by simp; omega) (fun k hk => by cases hk; exact Nat.le_refl _)
              have HO4 := hide ho4
              have HB4 := hide hb4
              clear ho4 hb4 hg4 ho3 hb3 c3 c4
              go_wp2_with fail
              go_roundw
              case rel => exact ⟨i, j + 1, out ++ [q], rfl, by go_num, hi, by omega, by rw [show i + j + 1 = i + (j + 1) by omega], HO4.out, SLT.out hb, HB4.out⟩
              case measure => simp [intOf]; omega
          · have hjr : j = r := by omega
            subst hjr
            go_wp2_with fail
            go_meet
            case rel => exact ⟨i, j, out, rfl, rfl, hi, Nat.le_refl _, rfl, HO.out, HMG.out, .inr rfl, hbel⟩
        · have him : i = mid := by omega
          subst him
          go_wp2_with fail
          go_meet
          case rel => exact ⟨i, j, out, rfl, rfl, Nat.le_refl _, hj, rfl, HO.out, HMG.out, .inl rfl, hbel⟩
end Go.Proofs.Qxb6630764a
