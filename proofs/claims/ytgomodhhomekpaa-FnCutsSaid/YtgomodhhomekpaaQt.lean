/-
  A region that draws its order, whose operations only read but for a last few in one forced order: the reading ones are walked by the quiet step.
-/
import Derived.StillTailTactics
import Derived.Deep.QuietTactic
import Derived.BigQuiet
namespace Go.Proofs.Ytgomodhhomekpaa
theorem still_of_quiet {P : Program} {o : Oper} {a : Act} {w : World} {K : Act → Prop} (h : o.quiet P a (fun w' => w' = w) K) : o.still P a w K := by
  obtain ⟨v, h1, h2⟩ := h
  have h3 := h1 w rfl
  unfold Oper.quietAt at h3
  unfold Oper.still
  generalize (execOp a.eval o).run P w = r at *
  cases r with
  | ok n w' =>
    cases n <;> simp only [Oper.quietUpon] at h3 <;> simp only [Oper.stillUpon]
    case value u => exact ⟨h3.1, by rw [h3.2]; exact h2⟩
    case skip => exact ⟨h3.1, by rw [← h3.2]; exact h2⟩
    case enter f args => exact ⟨h3.1, v, h3.2, h2⟩
  | halt x w' => simp only [Oper.quietUpon] at h3
theorem wpStill_of_quiet {P : Program} {ops : Array Oper} {w : World} {Q : Act → Prop} (l : List Oper) : ∀ a, wpQuiet P ops (fun w' => w' = w) Q l a → wpStill P ops w Q l a := by
  induction l with
  | nil => intro a h; exact h
  | cons o l ih =>
    intro a h
    unfold wpQuiet at h
    unfold wpStill
    split at h
    · rename_i hw; rw [if_pos hw]
      exact Oper.still_mono (fun a h => ih a h) (still_of_quiet h)
    · rename_i hw; rw [if_neg hw]
      exact ih _ h
theorem wp_region_quiet_tail {P : Program} {id : Nat} {Q : Exit → Act → World → Prop} {a : Act} {w : World} {l : List Oper} (n : Nat) (hm : P.follows .mixedOrders = true) (hB : Region.lexTailB .any l.toArray n = true)
    (h : wpQuiet P l.toArray (fun w' => w' = w.drew) (fun a' => wpList P l.toArray Q (l.drop n) a' w.drew) (l.take n) a) : (Code.region id l.toArray true).wp P Q a w :=
  wp_region_still_tail n hm hB (wpStill_of_quiet _ _ h)
end Go.Proofs.Ytgomodhhomekpaa
