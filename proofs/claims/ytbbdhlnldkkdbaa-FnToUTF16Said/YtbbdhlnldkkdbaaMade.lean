/- Walks: impl.Made, spec.Only, spec.Bare. No condition. -/
import Derived.Test.YtbbdhlnldkkdbaaSpans
import Derived.Test.YtbbdhlnldkkdbaaBaseC
namespace Go.Proofs.Ytbbdhlnldkkdbaa
open Go.RowKit
attribute [local go_sem ↓] Go.wp_at_zero Go.wp_at_succ

theorem pValid_any (l c o : Int) (w : World) : Calls Try.prog 41 #[.agg #[.int .i64 l, .int .i64 c, .int .i64 o]] w fun e w' => e = .returned (.bool (told l o)) ∧ Below w.heap.size w w' := by
  by_cases h1 : 0 < l <;> by_cases h2 : 0 ≤ o
  all_goals
    go_enter Try.func41, Try.ntmps41
    go_wp2
    go_returns
    exact ⟨by simp [told, h1, h2], by go_grown⟩

set_option maxHeartbeats 1000000 in
theorem made_any (l c o : Int) (w : World) : Calls Try.prog 19 #[.agg #[.int .i64 l, .int .i64 c, .int .i64 o]] w fun e w' =>
    e = .returned (.tuple #[.agg #[.int .i64 (oL (cl l)), .int .i64 (oC (cl l) (cc l c)), .int .i64 (oO (co l c o))], .bool (told (cl l) (co l c o))]) ∧ Below w.heap.size w w' := by
  go_enter Try.func19, Try.ntmps19
  go_wp2_with fail
  refine (pointTo_any _ _ _ _).mono ?_
  rintro e w1 ⟨rfl, hb1⟩
  have hbl1 : Below w.heap.size w w1 := Below.trans (by go_grown) (hb1.mono (by simp; omega))
  have k1 := Blk.kept (Blk.newAt (g := w.heap.size + 1) (by simp)) hb1
  have hz1 := hb1.size
  simp at hz1
  clear hb1
  go_wp2_with fail
  refine wp_gen ?_
  intro W hW
  have hbl : Below w.heap.size w W := by rw [hW]; go_grown
  have b1 := (k1.al1 hW).drew
  have b2 := blk1_1 hW
  have a2 := b2.lt
  have a1 : ¬ w1.heap.size = w.heap.size + 1 := by omega
  have f2 := b2.three
  have hz := hbl.size
  clear k1 hW b2
  go_region_held3 (fun w' => (∀ b o, b < W.heap.size → ¬ b = w.heap.size + 1 → w'.cell? ⟨b, o, none⟩ = W.cell? ⟨b, o, none⟩) ∧ W.heap.size ≤ w'.heap.size ∧ W.grownBy w' (some (w.heap.size + 1)))
    (first
      | (go_split_ands; with_reducible (refine SX.set ?_ ?_ _; refine SX.set ?_ ?_ _; refine SX.set ?_ ?_ _; exact ⟨by assumption, by assumption, by assumption⟩; all_goals rfl))
      | (with_reducible exact SX.start)
      | (go_split_ands; (with_reducible refine SX.call ?_ hb); exact ⟨by assumption, by assumption, by assumption⟩))
    (first
      | (go_at_call 40; refine (pointOf_any _ _ _ _).mono ?_; rintro e w1 ⟨rfl, hb⟩; have kk := Blk.kept (g := w.heap.size + 1) (by assumption) hb)
      | (go_at_call 41; refine (pValid_any _ _ _ _).mono ?_; rintro e w1 ⟨rfl, hb⟩; have kk := Blk.kept (g := w.heap.size + 1) (by assumption) hb; have k3 := kk.three))
  go_wp2
  go_split_ands
  exact bodyPost_ret (v := .tuple #[.agg #[.int .i64 (oL (cl l)), .int .i64 (oC (cl l) (cc l c)), .int .i64 (oO (co l c o))], .bool (told (cl l) (co l c o))])
    (by simp [results, Try.results19, go_sem, *]) rfl ⟨rfl, hbl.trans (SX.below (g := w.heap.size + 1) (by assumption) (by omega) (by omega))⟩

theorem only_any (l c o : Int) (w : World) : Calls Try.prog 20 #[.agg #[.int .i64 l, .int .i64 c, .int .i64 o]] w fun e w' => e = .returned (.agg #[.int .i64 0, .int .i64 0, .int .i64 o]) ∧ Below w.heap.size w w' := by
  go_enter Try.func20, Try.ntmps20
  go_wp2
  go_returns
  exact ⟨rfl, by go_grown⟩
theorem bare_any (l c o : Int) (w : World) : Calls Try.prog 21 #[.agg #[.int .i64 l, .int .i64 c, .int .i64 o]] w fun e w' => e = .returned (.agg #[.int .i64 l, .int .i64 c, .int .i64 (-1)]) ∧ Below w.heap.size w w' := by
  go_enter Try.func21, Try.ntmps21
  go_wp2
  go_returns
  exact ⟨rfl, by go_grown⟩
end Go.Proofs.Ytbbdhlnldkkdbaa
