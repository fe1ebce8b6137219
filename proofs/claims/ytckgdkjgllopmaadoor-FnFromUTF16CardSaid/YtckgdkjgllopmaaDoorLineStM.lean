/- Plain law: where the line of an offset begins. No condition. -/
import Derived.Test.YtckgdkjgllopmaaDoorPb
set_option linter.unusedVariables false
set_option linter.unusedSimpArgs false
namespace Go.Proofs.YtckgdkjgllopmaaDoor
open Go.RowKit

theorem line_start (s : ByteArray) : ∀ k b : Nat, k ≤ s.size → (b : Int) = lastNl s k + 1 → b ≤ k ∧ nlTo s b = nlTo s k ∧ lastNl s b = (b : Int) - 1 ∧ ∀ i, b ≤ i → i < k → bt s i ≠ 10 := by
  intro k
  induction k with
  | zero =>
    intro b _ hb
    simp only [lastNl] at hb
    obtain rfl : b = 0 := by omega
    exact ⟨Nat.le_refl _, rfl, rfl, fun i _ h => by omega⟩
  | succ k ih =>
    intro b hk hb
    rw [lastNl] at hb
    by_cases h : bt s k = 10
    · rw [if_pos h] at hb
      obtain rfl : b = k + 1 := by omega
      exact ⟨Nat.le_refl _, rfl, by rw [lastNl, if_pos h]; omega, fun i _ h => by omega⟩
    · rw [if_neg h] at hb
      obtain ⟨h1, h2, h3, h4⟩ := ih b (by omega) hb
      refine ⟨by omega, ?_, h3, fun i hi hlt => ?_⟩
      · rw [nlTo_succ s k (by omega), if_neg h]; omega
      · by_cases e : i = k
        · subst e; exact h
        · exact h4 i hi (by omega)
end Go.Proofs.YtckgdkjgllopmaaDoor
