/- Walks: what a span of two points tells, laws.spans. No condition. -/
import Derived.Test.YtckgdkjgllopmaaDoorPa
set_option linter.unusedVariables false
set_option linter.unusedSimpArgs false
namespace Go.Proofs.YtckgdkjgllopmaaDoor
open Go.RowKit
attribute [local go_sem ↓] Go.wp_at_zero Go.wp_at_succ

theorem Blk.al1 {W w1 : World} {g : Nat} {t : TypeId} {cs : Array Value} {o1 : Obj} (hW : W = w1.alloc o1) (h : Blk w1 g t cs) : Blk W g t cs := by rw [hW]; exact h.alloc _
theorem Blk.al2 {W w1 : World} {g : Nat} {t : TypeId} {cs : Array Value} {o1 o2 : Obj} (hW : W = (w1.alloc o1).alloc o2) (h : Blk w1 g t cs) : Blk W g t cs := by rw [hW]; exact (h.alloc _).alloc _
theorem Blk.al3 {W w1 : World} {g : Nat} {t : TypeId} {cs : Array Value} {o1 o2 o3 : Obj} (hW : W = ((w1.alloc o1).alloc o2).alloc o3) (h : Blk w1 g t cs) : Blk W g t cs := by rw [hW]; exact ((h.alloc _).alloc _).alloc _

theorem cl_pos {l : Int} (h : 1 ≤ l) : cl l = l := by unfold cl; rw [if_neg (by omega)]
theorem cc_pos {l c : Int} (h : 1 ≤ c) : cc l c = c := by unfold cc; rw [if_neg (by omega)]
theorem co_pos {l c o : Int} (h : 1 ≤ o) : co l c o = o := by unfold co; rw [if_neg (by omega)]
theorem atSt_pos {l c o : Int} (h : 1 ≤ l) : atSt l c o = false := by
  unfold atSt
  have h1 : decide (0 < l) = true := by simp; omega
  have h2 : (l == 0) = false := by simp; omega
  simp [h1, h2]
theorem oL_pos {l : Int} (h : 1 ≤ l) : oL l = l := by unfold oL; rw [if_pos (by omega)]
theorem oC_pos {l c : Int} (h : 1 ≤ l) : oC l c = c := by unfold oC; rw [if_pos (by omega)]
theorem oO_pos {o : Int} (h : 0 ≤ o) : oO o = o := by unfold oO; rw [if_pos h]
theorem told_pos {l o : Int} (h : 1 ≤ l) : told l o = true := by unfold told; simp; omega

theorem madeSpan_pos (u : ByteArray) (l c o l2 c2 o2 : Int) (w : World) (h1 : 1 ≤ l) (h2 : 1 ≤ c) (h3 : 1 ≤ o) (h4 : 1 ≤ l2) (h5 : 1 ≤ c2) (h6 : 1 ≤ o2) :
    Calls Tryd.prog 20 #[.string u, .agg #[.int .i64 l, .int .i64 c, .int .i64 o], .agg #[.int .i64 l2, .int .i64 c2, .int .i64 o2]] w fun e w' =>
      e = .returned (.tuple #[.string u, .agg #[.int .i64 l, .int .i64 c, .int .i64 o], .agg #[.int .i64 l2, .int .i64 c2, .int .i64 o2], .bool true]) ∧ Below w.heap.size w w' := by
  have h := madeSpan_any u l c o l2 c2 o2 w
  simp only [cl_pos h1, cl_pos h4, cc_pos h2, cc_pos h5, co_pos h3, co_pos h6, eN_keep (atSt_pos h4), oL_pos h1, oL_pos h4, oC_pos h1, oC_pos h4, oO_pos (show 0 ≤ o by omega), oO_pos (show 0 ≤ o2 by omega), told_pos h1] at h
  exact h

set_option maxHeartbeats 2000000 in
theorem spans_any (w : World) : Calls Tryd.prog 7 #[] w fun e w' => e = .returned (.bool true) ∧ Below w.heap.size w w' := by
  go_enter Tryd.func7, Tryd.ntmps7
  go_wp2_with fail
  refine (madeSpan_pos _ _ _ _ _ _ _ _ (by omega) (by omega) (by omega) (by omega) (by omega) (by omega)).mono ?_
  rintro e w1 ⟨rfl, hb1⟩
  have hz1 := hb1.size
  go_wp2
  all_goals
    go_ret
    exact ⟨rfl, by go_grown⟩
end Go.Proofs.YtckgdkjgllopmaaDoor
