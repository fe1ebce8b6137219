/- Walks: New, pointTo, pointOf, spanTo, spanOf of the span package and its thin package. No condition. -/
import Derived.Test.YtbbdhlnldkkdbaaSpanA
namespace Go.Proofs.Ytbbdhlnldkkdbaa
open Go.RowKit

/-- The end of a span is put at its start: it is no point, or all zero. -/
def atSt (l c o : Int) : Bool := (!(decide (0 < l) || decide (0 ≤ o))) || (l == 0 && (c == 0 && o == 0))

theorem sp_eq {u : ByteArray} {a b c d e f a' b' c' d' e' f' : Int} (h1 : a = a') (h2 : b = b') (h3 : c = c') (h4 : d = d') (h5 : e = e') (h6 : f = f') :
    Ending.returned (.agg #[.string u, .int .i64 a, .int .i64 b, .int .i64 c, .int .i64 d, .int .i64 e, .int .i64 f]) = Ending.returned (.agg #[.string u, .int .i64 a', .int .i64 b', .int .i64 c', .int .i64 d', .int .i64 e', .int .i64 f']) := by
  rw [h1, h2, h3, h4, h5, h6]

/-- What the end of a span becomes. -/
def eN (l c o x y : Int) : Int := if atSt l c o then x else y
theorem eN_start {l c o x y : Int} (h : atSt l c o = true) : eN l c o x y = x := by unfold eN; rw [if_pos h]
theorem eN_keep {l c o x y : Int} (h : atSt l c o = false) : eN l c o x y = y := by unfold eN; rw [if_neg (by simp [h])]

set_option maxHeartbeats 2000000 in
theorem new_any (u : ByteArray) (l c o l2 c2 o2 : Int) (w : World) :
    Calls Try.prog 59 #[.string u, .agg #[.int .i64 l, .int .i64 c, .int .i64 o], .agg #[.int .i64 l2, .int .i64 c2, .int .i64 o2]] w fun e w' =>
      e = .returned (.agg #[.string u, .int .i64 l, .int .i64 c, .int .i64 o, .int .i64 (eN l2 c2 o2 l l2), .int .i64 (eN l2 c2 o2 c c2), .int .i64 (eN l2 c2 o2 o o2)]) ∧ Below w.heap.size w w' := by
  go_enter Try.func59, Try.ntmps59
  go_wp2
  all_goals
    go_returns
    refine ⟨sp_eq ?_ ?_ ?_ ?_ ?_ ?_, by go_grown⟩ <;> simp only [eN, atSt] <;> simp_all <;> omega
end Go.Proofs.Ytbbdhlnldkkdbaa
