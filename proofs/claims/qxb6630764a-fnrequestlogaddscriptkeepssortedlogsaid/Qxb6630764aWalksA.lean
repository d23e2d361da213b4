import Derived.Test.Qxb6630764aProg
import Derived.WalkKit
import Derived.WalkSpells
import Derived.WalkLawsBesides
import Derived.BigQuiet
namespace Go.Proofs.Qxb6630764a
open Go.RowKit

/-- 'instLess' ¦ 'before' as a plain test. -/
def ltB (a b : Int × Int) : Bool := if a.1 = b.1 then decide (a.2 < b.2) else decide (a.1 < b.1)

def I (a : Int × Int) : Value := .agg #[.int .i64 a.1, .int .i32 a.2]

theorem less_any (s1 n1 s2 n2 : Int) (w : World) :
    Calls Try.prog 6 #[.agg #[.int .i64 s1, .int .i32 n1], .agg #[.int .i64 s2, .int .i32 n2]] w fun e w' => e = .returned (.bool (ltB (s1, n1) (s2, n2))) ∧ Below w.heap.size w w' := by
  by_cases h : s1 = s2
  · subst h
    have h' : (s1 != s1) = false := by simp
    go_enter Try.func6, Try.ntmps6
    go_wp2
    go_ret
    exact ⟨by simp [ltB], (((Below.refl _ _).alloc (Nat.le_refl _) _).alloc (by simp) _)⟩
  · have h' : (s1 != s2) = true := by simpa using h
    have H : Hid (¬ s1 = s2) := h
    clear h
    go_enter Try.func6, Try.ntmps6
    go_wp2
    go_ret
    exact ⟨by simp [ltB, H.out], (((Below.refl _ _).alloc (Nat.le_refl _) _).alloc (by simp) _)⟩

theorem before_any (s1 n1 s2 n2 : Int) (w : World) :
    Calls Try.prog 14 #[.agg #[.int .i64 s1, .int .i32 n1], .agg #[.int .i64 s2, .int .i32 n2]] w fun e w' => e = .returned (.bool (ltB (s1, n1) (s2, n2))) ∧ Below w.heap.size w w' := by
  by_cases h : s1 = s2
  · subst h
    have h' : (s1 == s1) = true := by simp
    have h'' : decide (s1 < s1) = false := by simp
    go_enter Try.func14, Try.ntmps14
    go_wp2
    go_ret
    exact ⟨by simp [ltB], (((Below.refl _ _).alloc (Nat.le_refl _) _).alloc (by simp) _)⟩
  · have h' : (s1 == s2) = false := by simpa using h
    have H : Hid (¬ s1 = s2) := h
    clear h
    by_cases hl : s1 < s2
    · go_enter Try.func14, Try.ntmps14
      go_wp2
      go_ret
      exact ⟨by simp [ltB, H.out, hl], (((Below.refl _ _).alloc (Nat.le_refl _) _).alloc (by simp) _)⟩
    · have hd : decide (s1 < s2) = false := by simpa using hl
      go_enter Try.func14, Try.ntmps14
      go_wp2
      go_ret
      exact ⟨by simp [ltB, H.out]; omega, (((Below.refl _ _).alloc (Nat.le_refl _) _).alloc (by simp) _)⟩


def later (a b : Int × Int) : Int × Int := if ltB a b = true then b else a

theorem bcell {B : Nat} {W w1 : World} (hb : Below B W w1) : (∀ b o, b < B → w1.cell? ⟨b, o, none⟩ = W.cell? ⟨b, o, none⟩) ∧ (∀ b o, b < B → w1.frozen? ⟨b, o, none⟩ = W.frozen? ⟨b, o, none⟩) :=
  ⟨fun b o h => hb.cell (p := ⟨b, o, none⟩) h, fun b o h => hb.frozen (p := ⟨b, o, none⟩) h⟩

theorem later_any (s1 n1 s2 n2 : Int) (w : World) :
    Calls Try.prog 7 #[.agg #[.int .i64 s1, .int .i32 n1], .agg #[.int .i64 s2, .int .i32 n2]] w fun e w' => e = .returned (.agg #[.int .i64 (later (s1, n1) (s2, n2)).1, .int .i32 (later (s1, n1) (s2, n2)).2]) ∧ Below w.heap.size w w' := by
  cases hb : ltB (s1, n1) (s2, n2)
  · have hl : later (s1, n1) (s2, n2) = (s1, n1) := by simp [later, hb]
    rw [hl]
    clear hl
    go_enter Try.func7, Try.ntmps7
    go_wp2_with fail
    refine (less_any _ _ _ _ _).mono ?_
    rintro e w1 ⟨rfl, hbel⟩
    obtain ⟨hc, hf⟩ := bcell hbel
    have hz : w.heap.size + 1 + 1 < w1.heap.size := by have := hbel.size; simp at this; omega
    have H : Hid (Below (((w.alloc (Obj.cells #[Value.int IntKind.i64 s1, Value.int IntKind.i32 n1] 24)).alloc (Obj.cells #[Value.int IntKind.i64 s2, Value.int IntKind.i32 n2] 24)).alloc (Obj.cells #[Value.int IntKind.i64 0, Value.int IntKind.i32 0] 24)).heap.size _ w1) := hbel
    clear hbel
    go_wp2
    refine bodyPost_ret (v := .agg #[.int .i64 s1, .int .i32 n1]) (by simp [results, Try.results7, go_sem, hc]) rfl ⟨rfl, ?_⟩
    refine Below.setCell (Below.setCell ?_ (by simp; omega) _) (by simp; omega) _
    exact ((((Below.refl _ w).alloc (Nat.le_refl _) _).alloc (by simp) _).alloc (by simp; omega) _).trans (H.out.mono (by simp; omega))
  · have hl : later (s1, n1) (s2, n2) = (s2, n2) := by simp [later, hb]
    rw [hl]
    clear hl
    go_enter Try.func7, Try.ntmps7
    go_wp2_with fail
    refine (less_any _ _ _ _ _).mono ?_
    rintro e w1 ⟨rfl, hbel⟩
    obtain ⟨hc, hf⟩ := bcell hbel
    have hz : w.heap.size + 1 + 1 < w1.heap.size := by have := hbel.size; simp at this; omega
    have H : Hid (Below (((w.alloc (Obj.cells #[Value.int IntKind.i64 s1, Value.int IntKind.i32 n1] 24)).alloc (Obj.cells #[Value.int IntKind.i64 s2, Value.int IntKind.i32 n2] 24)).alloc (Obj.cells #[Value.int IntKind.i64 0, Value.int IntKind.i32 0] 24)).heap.size _ w1) := hbel
    clear hbel
    go_wp2
    refine bodyPost_ret (v := .agg #[.int .i64 s2, .int .i32 n2]) (by simp [results, Try.results7, go_sem, hc]) rfl ⟨rfl, ?_⟩
    refine Below.setCell (Below.setCell ?_ (by simp; omega) _) (by simp; omega) _
    exact ((((Below.refl _ w).alloc (Nat.le_refl _) _).alloc (by simp) _).alloc (by simp; omega) _).trans (H.out.mono (by simp; omega))

theorem release_any (a b h : Int) (v : Value) (w : World) :
    Calls Try.prog 15 #[.agg #[.int .i64 a, .int .i32 b, .int .i32 h, v]] w fun e w' => e = .returned (.agg #[.int .i64 a, .int .i32 b]) ∧ Below w.heap.size w w' := by
  go_enter Try.func15, Try.ntmps15
  go_wp2
  exact bodyPost_ret (v := .agg #[.int .i64 a, .int .i32 b]) (by simp [results, Try.results15, go_sem]) rfl ⟨rfl, ((Below.refl _ _).alloc (Nat.le_refl _) _).alloc (by simp) _⟩

theorem bytes3_any (a b c : Int) (ao : Option Addr) (n cap : Nat) (sp : Int) (x1 x2 y1 y2 : Int) (w : World) (hn : n ≤ maxLen) :
    Calls Try.prog 5 #[.int .i64 a, .int .i32 b, .int .i32 c, .slice ao n cap, .int .i64 sp, .agg #[.int .i64 x1, .int .i32 x2], .agg #[.int .i64 y1, .int .i32 y2]] w fun e w' => e = .returned (.bool (decide (n ≤ 1048576))) ∧ Below w.heap.size w w' := by
  unfold maxLen at hn
  by_cases h : (1048576 : Int) < n
  · go_enter Try.func5, Try.ntmps5
    go_wp2
    go_ret
    exact ⟨by simp; omega, (((Below.refl _ _).alloc (Nat.le_refl _) _).alloc (by simp) _)⟩
  · go_enter Try.func5, Try.ntmps5
    go_wp2
    go_ret
    exact ⟨by simp; omega, (((Below.refl _ _).alloc (Nat.le_refl _) _).alloc (by simp) _)⟩

theorem bytes4_any (ao : Option Addr) (n cap : Nat) (w : World) (hn : n ≤ maxLen) :
    Calls Try.prog 11 #[.slice ao n cap] w fun e w' => e = .returned (.bool (decide (n ≤ 1048576))) ∧ w' = w := by
  unfold maxLen at hn
  by_cases h : (1048576 : Int) < n
  · go_enter Try.func11, Try.ntmps11
    go_wp2
    go_ret
    exact ⟨by simp; omega, rfl⟩
  · go_enter Try.func11, Try.ntmps11
    go_wp2
    go_ret
    exact ⟨by simp; omega, rfl⟩

end Go.Proofs.Qxb6630764a
