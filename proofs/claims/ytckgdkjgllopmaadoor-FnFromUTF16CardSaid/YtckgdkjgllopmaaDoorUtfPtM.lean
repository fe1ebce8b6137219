/- Walks: methods of a point. No condition. -/
import Derived.Test.YtckgdkjgllopmaaDoorPa
set_option linter.unusedVariables false
set_option linter.unusedSimpArgs false
namespace Go.Proofs.YtckgdkjgllopmaaDoor
open Go.RowKit
attribute [local go_sem ↓] Go.wp_at_zero Go.wp_at_succ

section
variable (l c o : Int) (w : World)
theorem qHasPosition_any : Calls Tryd.prog 36 #[.agg #[.int .i64 l, .int .i64 c, .int .i64 o]] w fun e w' => e = .returned (.bool (decide (0 < l))) ∧ Below w.heap.size w w' := by
  go_enter Tryd.func36, Tryd.ntmps36
  go_wp2
  go_ret
  exact ⟨rfl, by go_grown⟩
theorem qHasOffset_any : Calls Tryd.prog 31 #[.agg #[.int .i64 l, .int .i64 c, .int .i64 o]] w fun e w' => e = .returned (.bool (decide (0 ≤ o))) ∧ Below w.heap.size w w' := by
  go_enter Tryd.func31, Tryd.ntmps31
  go_wp2
  go_ret
  exact ⟨rfl, by go_grown⟩
theorem qColumn_any (h : 0 < l) : Calls Tryd.prog 38 #[.agg #[.int .i64 l, .int .i64 c, .int .i64 o]] w fun e w' => e = .returned (.int .i64 c) ∧ Below w.heap.size w w' := by
  have g1 : decide (0 < l) = true := by simpa using h
  go_enter Tryd.func38, Tryd.ntmps38
  go_wp2
  go_ret
  exact ⟨rfl, by go_grown⟩
theorem qOffset_any (h : 0 ≤ o) : Calls Tryd.prog 33 #[.agg #[.int .i64 l, .int .i64 c, .int .i64 o]] w fun e w' => e = .returned (.int .i64 o) ∧ Below w.heap.size w w' := by
  have g1 : decide (0 ≤ o) = true := by simpa using h
  go_enter Tryd.func33, Tryd.ntmps33
  go_wp2
  go_ret
  exact ⟨rfl, by go_grown⟩
end
end Go.Proofs.YtckgdkjgllopmaaDoor
