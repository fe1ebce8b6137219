/- Walks: pointTo, spanTo, pointOf, spanOf of the thin package. No condition. -/
import Derived.Test.YtbbdhlnldkkdbaaSpanB
import Derived.Test.YtbbdhlnldkkdbaaBaseB
namespace Go.Proofs.Ytbbdhlnldkkdbaa
open Go.RowKit
attribute [local go_sem ↓] Go.wp_at_zero Go.wp_at_succ

set_option maxHeartbeats 1000000 in
theorem pointTo_any (l c o : Int) (w : World) :
    Calls Try.prog 39 #[.agg #[.int .i64 l, .int .i64 c, .int .i64 o]] w fun e w' => e = .returned (.agg #[.int .i64 (cl l), .int .i64 (cc l c), .int .i64 (co l c o)]) ∧ Below w.heap.size w w' := by
  go_enter Try.func39, Try.ntmps39
  go_wp2_with fail
  refine (newPoint_any _ _ _ _).mono ?_
  rintro e w1 ⟨rfl, hb⟩
  have hbb : Below w.heap.size w w1 := Below.trans (by go_grown) (hb.mono (by simp; omega))
  have hz := hb.size
  simp at hz
  have hk := (Blk.kept (Blk.new _ _ _) hb).three
  simp at hk
  clear hb
  go_wp2
  exact bodyPost_ret (v := .agg #[.int .i64 (cl l), .int .i64 (cc l c), .int .i64 (co l c o)]) (by simp [results, Try.results39, go_sem, hk]) rfl ⟨rfl, by go_grown⟩

/-- What a point tells. -/
def oL (l : Int) : Int := if 0 < l then l else 0
def oC (l c : Int) : Int := if 0 < l then c else 0
def oO (o : Int) : Int := if 0 ≤ o then o else -1

set_option maxHeartbeats 1000000 in
theorem pointOf_any (l c o : Int) (w : World) :
    Calls Try.prog 40 #[.agg #[.int .i64 l, .int .i64 c, .int .i64 o]] w fun e w' => e = .returned (.agg #[.int .i64 (oL l), .int .i64 (oC l c), .int .i64 (oO o)]) ∧ Below w.heap.size w w' := by
  by_cases h1 : 0 < l <;> by_cases h2 : 0 ≤ o
  all_goals
    go_enter Try.func40, Try.ntmps40
    go_wp2
    go_returns
    refine ⟨pt_eq ?_ ?_ ?_, by go_grown⟩ <;> simp only [oL, oC, oO] <;> split <;> omega

set_option maxHeartbeats 1000000 in
theorem spanTo_any (u : ByteArray) (l c o l2 c2 o2 : Int) (w : World) :
    Calls Try.prog 37 #[.string u, .agg #[.int .i64 l, .int .i64 c, .int .i64 o], .agg #[.int .i64 l2, .int .i64 c2, .int .i64 o2]] w fun e w' =>
      e = .returned (.agg #[.string u, .int .i64 (cl l), .int .i64 (cc l c), .int .i64 (co l c o),
        .int .i64 (eN (cl l2) (cc l2 c2) (co l2 c2 o2) (cl l) (cl l2)), .int .i64 (eN (cl l2) (cc l2 c2) (co l2 c2 o2) (cc l c) (cc l2 c2)), .int .i64 (eN (cl l2) (cc l2 c2) (co l2 c2 o2) (co l c o) (co l2 c2 o2))]) ∧ Below w.heap.size w w' := by
  go_enter Try.func37, Try.ntmps37
  go_wp2_with fail
  refine wp_gen ?_
  intro W hW
  have b1 := blk3_1 hW
  have b2 := blk3_2 hW
  have b3 := (blk3_3 hW).drew
  have hz : w.heap.size + 1 + 1 ≤ W.heap.size := by rw [hW]; simp
  have hbl : Below w.heap.size w W := by rw [hW]; go_grown
  clear hW
  have f1 := b1.three
  have f2 := b2.three
  clear b1 b2
  go_region_held3 (fun w' => (∀ b o, b < w.heap.size + 1 + 1 → w'.cell? ⟨b, o, none⟩ = W.cell? ⟨b, o, none⟩) ∧ w.heap.size + 1 + 1 ≤ w'.heap.size ∧ Below (w.heap.size + 1 + 1) W w')
    (first
      | (go_split_ands; with_reducible (refine SB.set ?_ ?_ _; refine SB.set ?_ ?_ _; refine SB.set ?_ ?_ _; refine SB.set ?_ ?_ _; refine SB.set ?_ ?_ _; refine SB.set ?_ ?_ _; refine SB.set ?_ ?_ _; exact ⟨by assumption, by assumption, by assumption⟩; all_goals exact Nat.le_refl _))
      | (with_reducible exact SB.start hz)
      | (go_split_ands; (with_reducible refine SB.call ?_ hb); exact ⟨by assumption, by assumption, by assumption⟩))
    (first
      | (go_at_call 39; refine (pointTo_any _ _ _ _).mono ?_; rintro e w1 ⟨rfl, hb⟩; have kk := Blk.kept (g := w.heap.size + 1 + 1) (by assumption) hb)
      | (go_at_call 59; refine (new_any _ _ _ _ _ _ _ _).mono ?_; rintro e w1 ⟨rfl, hb⟩; have kk := Blk.kept (g := w.heap.size + 1 + 1) (by assumption) hb; have k7 := kk.seven))
  go_wp2
  go_split_ands
  exact bodyPost_ret (v := .agg #[.string u, .int .i64 (cl l), .int .i64 (cc l c), .int .i64 (co l c o),
        .int .i64 (eN (cl l2) (cc l2 c2) (co l2 c2 o2) (cl l) (cl l2)), .int .i64 (eN (cl l2) (cc l2 c2) (co l2 c2 o2) (cc l c) (cc l2 c2)), .int .i64 (eN (cl l2) (cc l2 c2) (co l2 c2 o2) (co l c o) (co l2 c2 o2))])
    (by simp [results, Try.results37, go_sem, *]) rfl ⟨rfl, hbl.trans (Below.mono (B := w.heap.size + 1 + 1) (by assumption) (by omega))⟩
end Go.Proofs.Ytbbdhlnldkkdbaa
