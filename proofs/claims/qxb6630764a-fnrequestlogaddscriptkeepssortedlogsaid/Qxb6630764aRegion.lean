import Derived.StillTail
import Derived.BigQuiet
import Derived.Lib.QuietBelow
namespace Go.Proofs.Qxb6630764a
open Go

/-- The quiet walk at one world is the still walk. -/
theorem wpStill_of_quiet {P : Program} {ops : Array Oper} {W : World} {Q : Act → Prop} : ∀ (l : List Oper) (a : Act), wpQuiet P ops (fun w' => w' = W) Q l a → wpStill P ops W Q l a
  | [], _, h => h
  | o :: l, a, h => by
    unfold wpQuiet at h
    unfold wpStill
    split
    · rename_i hw
      rw [if_pos hw] at h
      obtain ⟨v, h1, h2⟩ := h
      have h3 := h1 W rfl
      have h4 := wpStill_of_quiet l _ h2
      unfold Oper.quietAt at h3
      unfold Oper.still
      generalize (execOp a.eval o).run P W = r at *
      cases r with
      | ok n w' =>
        cases n <;> simp only [Oper.quietUpon] at h3 <;> simp only [Oper.stillUpon]
        case value u => exact ⟨h3.1, by rw [h3.2]; exact h4⟩
        case skip => exact ⟨h3.1, by rw [← h3.2]; exact h4⟩
        case enter f args => exact ⟨h3.1, v, h3.2, h4⟩
      | halt x w' => simp only [Oper.quietUpon] at h3
    · rename_i hw
      rw [if_neg hw] at h
      exact wpStill_of_quiet l _ h

/-- A region that draws its order: its first n operations only read; the others come behind them, in the order of the text. -/
theorem wp_region_tail {P : Program} {id : Nat} {Q : Exit → Act → World → Prop} {a : Act} {w : World} {l : List Oper} (n : Nat) (hm : P.follows .mixedOrders = true) (hB : Region.lexTailB .any l.toArray n = true)
    (h : wpQuiet P l.toArray (fun w' => w' = w.drew) (fun a' => wpList P l.toArray Q (l.drop n) a' w.drew) (l.take n) a) : (Code.region id l.toArray true).wp P Q a w :=
  wp_region_still_tail n hm hB (wpStill_of_quiet _ _ h)

end Go.Proofs.Qxb6630764a
