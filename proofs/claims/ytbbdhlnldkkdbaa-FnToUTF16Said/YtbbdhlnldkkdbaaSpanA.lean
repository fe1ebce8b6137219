/- Walks: the points and spans of the span package: NewPoint, New, pointTo, pointOf. No condition. -/
import Derived.Test.YtbbdhlnldkkdbaaProg
import Derived.Test.YtbbdhlnldkkdbaaBase
import Derived.WalkKit
import Derived.WalkSpells
import Derived.WalkLawsBesides
import Derived.Handy
import Derived.BigGuardPart
import Derived.Deep.RegionHeld3
import Derived.Deep.DrawnRows
namespace Go.Proofs.Ytbbdhlnldkkdbaa
open Go.RowKit

def cl (l : Int) : Int := if l < 0 then 0 else l
def cc (l c : Int) : Int := if c ≤ 0 then (if 0 < cl l then 1 else 0) else c
def co (l c o : Int) : Int := if o = 0 ∧ (1 < cl l ∨ 1 < cc l c) then -1 else o

theorem pt_eq {a b c a' b' c' : Int} (h1 : a = a') (h2 : b = b') (h3 : c = c') : Ending.returned (.agg #[.int .i64 a, .int .i64 b, .int .i64 c]) = Ending.returned (.agg #[.int .i64 a', .int .i64 b', .int .i64 c']) := by rw [h1, h2, h3]

set_option maxHeartbeats 4000000 in
theorem newPoint_any (l c o : Int) (w : World) :
    Calls Try.prog 60 #[.int .i64 l, .int .i64 c, .int .i64 o] w fun e w' => e = .returned (.agg #[.int .i64 (cl l), .int .i64 (cc l c), .int .i64 (co l c o)]) ∧ Below w.heap.size w w' := by
  have ho : (o == 0) = true ∨ (o == 0) = false := by cases (o == 0) <;> simp
  rcases ho with ho | ho <;> by_cases h1 : l < 0 <;> by_cases h2 : c ≤ 0 <;> by_cases h3 : 0 < l <;> by_cases h4 : 1 < l <;> by_cases h5 : 1 < c
  all_goals first
    | (exfalso; omega)
    | (go_enter Try.func60, Try.ntmps60
       go_wp2
       go_returns
       refine ⟨pt_eq ?_ ?_ ?_, by go_grown⟩ <;> simp only [cl, cc, co] <;> simp at ho <;> (repeat' split) <;> omega)
end Go.Proofs.Ytbbdhlnldkkdbaa
